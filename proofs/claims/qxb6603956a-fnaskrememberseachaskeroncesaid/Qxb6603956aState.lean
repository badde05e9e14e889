/- THE STANDING IN MEMORY: its box, the result's box, the two rows; what each store does to them. -/
import Derived.Test.Qxb6603956aCons
import Derived.Test.Qxb6603956aZeros
namespace Go.Proofs.Qxb6603956a
open Go.RowKit
set_option linter.unusedVariables false

theorem heap_setCell_at {w : World} {s j : Nat} {cs : Array Value} {t : TypeId} {z : Nat × Nat} (u : Value) (h : w.heap[s]? = some (.cells cs t z)) : (w.setCell ⟨s, j, none⟩ u).heap[s]? = some (.cells (cs.setIfInBounds j u) t z) := by
  have hlt := lt_of_heap h
  have h' : w.heap[s] = .cells cs t z := by simpa [Array.getElem?_eq_getElem hlt] using h
  show (w.heap.modify s _)[s]? = _
  rw [Array.getElem?_eq_getElem (by simpa using hlt), Array.getElem_modify_self, h']
  rfl

theorem owns_of_block {w w' : World} {base : Nat} {e : TypeId} {size : Nat} {v : Value} {n : Nat} {xs : List Value} (h : w.ownsRow base e size v n xs) (hk : ∀ g, v.ownBlock = some g → w'.heap[g]? = w.heap[g]?) : w'.ownsRow base e size v n xs := by
  refine ⟨h.1, ?_⟩
  rcases h.2 with hn | ⟨g, cap, cur, rfl, hb, hgg, rest⟩
  · exact .inl hn
  · exact .inr ⟨g, cap, cur, rfl, hb, by rw [hk g rfl]; exact hgg, rest⟩

/-- The block of an owned row holds cells of its element type. -/
theorem owns_block {w : World} {base : Nat} {e : TypeId} {size : Nat} {v : Value} {n : Nat} {xs : List Value} (h : w.ownsRow base e size v n xs) {g : Nat} (hg : v.ownBlock = some g) : base ≤ g ∧ ∃ cur, w.heap[g]? = some (.cells cur e (0, 0)) := by
  rcases h.2 with ⟨rfl, _⟩ | ⟨g', cap, cur, rfl, hb, hgg, rest⟩
  · simp [Value.ownBlock] at hg
  · simp [Value.ownBlock] at hg
    subst hg
    exact ⟨hb, cur, hgg⟩

def boxOf (id vote : Int) (dec : Int) (va vw : Value) (done idle : Int) : Array Value := #[.int .i64 id, .int .u8 vote, .int .u8 dec, va, vw, .int .i64 done, .int .i64 idle]
def step0 : Array Value := #[.slice none 0 0, .int .u8 0, .pointer none, .bool false]

structure St (s r x : Nat) (xc : Array Value) (id vote dec done idle : Int) (va vw : Value) (A M : List Int) (base : Nat) (w wr : World) : Prop where
  box : wr.heap[s]? = some (.cells (boxOf id vote dec va vw done idle) 83 (0, 0))
  res : wr.heap[r]? = some (.cells step0 54 (0, 0))
  oa : wr.ownsRow base 3 1 va A.length (A.map (Value.int .i64))
  om : wr.ownsRow base 77 1 vw M.length (M.map (Value.int .u64))
  bel : Below base w wr
  hs : base ≤ s
  hr : base ≤ r
  xb : wr.heap[x]? = some (.cells xc 54 (0, 0))
  nx : x ≠ r

section
variable {s r x : Nat} {xc : Array Value} {id vote dec done idle : Int} {va vw : Value} {A M : List Int} {base : Nat} {w wr : World}

theorem St.c2 (h : St s r x xc id vote dec done idle va vw A M base w wr) : wr.cell? ⟨s, 2, none⟩ = some (.int .u8 dec) := by simp [World.cell?, h.box, boxOf]
theorem St.c3 (h : St s r x xc id vote dec done idle va vw A M base w wr) : wr.cell? ⟨s, 3, none⟩ = some va := by simp [World.cell?, h.box, boxOf]
theorem St.c4 (h : St s r x xc id vote dec done idle va vw A M base w wr) : wr.cell? ⟨s, 4, none⟩ = some vw := by simp [World.cell?, h.box, boxOf]
theorem St.z3 (h : St s r x xc id vote dec done idle va vw A M base w wr) (j : Nat) : wr.frozen? ⟨s, j, none⟩ = false := by simp [World.frozen?, h.box]
theorem St.lts (h : St s r x xc id vote dec done idle va vw A M base w wr) : s < wr.heap.size := lt_of_heap h.box
theorem St.ltr (h : St s r x xc id vote dec done idle va vw A M base w wr) : r < wr.heap.size := lt_of_heap h.res

theorem St.same {wr' : World} (h : St s r x xc id vote dec done idle va vw A M base w wr) (hh : wr'.heap = wr.heap) (ho : wr'.os = wr.os) (ht : wr'.tape = wr.tape) (hp : wr'.output = wr.output) : St s r x xc id vote dec done idle va vw A M base w wr' := by
  refine ⟨by rw [hh]; exact h.box, by rw [hh]; exact h.res, owns_of_block h.oa (fun g _ => by rw [hh]), owns_of_block h.om (fun g _ => by rw [hh]), h.bel.trans ⟨ho, ht, hp, by rw [hh]; exact Nat.le_refl _, fun k _ => by rw [hh]⟩, h.hs, h.hr, by rw [hh]; exact h.xb, h.nx⟩

theorem St.drew (h : St s r x xc id vote dec done idle va vw A M base w wr) : St s r x xc id vote dec done idle va vw A M base w wr.drew := h.same rfl rfl rfl rfl
theorem St.drewN (h : St s r x xc id vote dec done idle va vw A M base w wr) (n : Nat) : St s r x xc id vote dec done idle va vw A M base w (wr.drewN n) := h.same rfl rfl rfl rfl

theorem St.ne_sr (h : St s r x xc id vote dec done idle va vw A M base w wr) : s ≠ r := by
  intro e; have h1 := h.box; rw [e, h.res] at h1; simp at h1
theorem St.ne_sx (h : St s r x xc id vote dec done idle va vw A M base w wr) : s ≠ x := by
  intro e; have h1 := h.box; rw [e, h.xb] at h1; simp at h1
theorem St.ltx (h : St s r x xc id vote dec done idle va vw A M base w wr) : x < wr.heap.size := lt_of_heap h.xb
theorem St.am (h : St s r x xc id vote dec done idle va vw A M base w wr) {g : Nat} (hg : va.ownBlock = some g) : vw.ownBlock ≠ some g ∧ g ≠ s ∧ g ≠ r ∧ g ≠ x := by
  obtain ⟨_, cur, hc⟩ := owns_block h.oa hg
  refine ⟨fun e => ?_, fun e => ?_, fun e => ?_, fun e => ?_⟩
  · obtain ⟨_, cur', hc'⟩ := owns_block h.om e
    rw [hc] at hc'; simp at hc'
  · subst e; have h1 := h.box; rw [hc] at h1; simp at h1
  · subst e; have h1 := h.res; rw [hc] at h1; simp at h1
  · subst e; have h1 := h.xb; rw [hc] at h1; simp at h1
theorem St.mm (h : St s r x xc id vote dec done idle va vw A M base w wr) {g : Nat} (hg : vw.ownBlock = some g) : va.ownBlock ≠ some g ∧ g ≠ s ∧ g ≠ r ∧ g ≠ x := by
  obtain ⟨_, cur, hc⟩ := owns_block h.om hg
  refine ⟨fun e => ?_, fun e => ?_, fun e => ?_, fun e => ?_⟩
  · obtain ⟨_, cur', hc'⟩ := owns_block h.oa e
    rw [hc] at hc'; simp at hc'
  · subst e; have h1 := h.box; rw [hc] at h1; simp at h1
  · subst e; have h1 := h.res; rw [hc] at h1; simp at h1
  · subst e; have h1 := h.xb; rw [hc] at h1; simp at h1

/-- Behind an append to the bitmap: all but the bitmap's value in the box. -/
theorem St.grownM {wr' : World} {v' : Value} {M' : List Int} (h : St s r x xc id vote dec done idle va vw A M base w wr) (hg : wr.grownBy wr' vw.ownBlock) (ho : wr'.ownsRow base 77 1 v' M'.length (M'.map (Value.int .u64))) :
    wr'.heap[s]? = some (.cells (boxOf id vote dec va vw done idle) 83 (0, 0)) ∧ St s r x xc id vote dec done idle va v' A M' base w (wr'.setCell ⟨s, 4, none⟩ v') := by
  have ks : wr'.heap[s]? = some (.cells (boxOf id vote dec va vw done idle) 83 (0, 0)) := by
    rw [hg.block s h.lts (fun e => (h.mm e.symm).2.1 rfl)]; exact h.box
  have kr : wr'.heap[r]? = some (.cells step0 54 (0, 0)) := by
    rw [hg.block r h.ltr (fun e => (h.mm e.symm).2.2.1 rfl)]; exact h.res
  have kx : wr'.heap[x]? = some (.cells xc 54 (0, 0)) := by
    rw [hg.block x h.ltx (fun e => (h.mm e.symm).2.2.2 rfl)]; exact h.xb
  have ka : wr'.ownsRow base 3 1 va A.length (A.map (Value.int .i64)) := owns_of_block h.oa (fun g e => hg.block g (lt_of_heap (owns_block h.oa e).2.choose_spec) (fun e' => (h.am e).1 e'.symm))
  have kb : Below base w wr' := h.bel.grown hg (Nat.le_trans h.hs (Nat.le_of_lt h.lts)) (fun k e => (owns_block h.om e).1)
  refine ⟨ks, heap_setCell_at v' ks, ?_, ?_, ?_, kb.setCell h.hs _, h.hs, h.hr, by rw [Below.heap_setCell _ _ _ _ (show x ≠ s from fun e => h.ne_sx e.symm)]; exact kx, h.nx⟩
  · rw [Below.heap_setCell _ _ _ _ (show r ≠ s from fun e => h.ne_sr e.symm)]; exact kr
  · exact owns_of_block ka (fun g e => Below.heap_setCell _ _ _ _ (h.am e).2.1)
  · refine owns_of_block ho (fun g e => Below.heap_setCell _ _ _ _ ?_)
    intro e'
    obtain ⟨_, cur, hc⟩ := owns_block ho e
    have : g = s := e'
    rw [this, ks] at hc; simp at hc

/-- Behind a store into the bitmap. -/
theorem St.word {g cap : Nat} {y : Int} {i : Nat} (h : St s r x xc id vote dec done idle va (.slice (some ⟨g, 0, none⟩) M.length cap) A M base w wr) :
    St s r x xc id vote dec done idle va (.slice (some ⟨g, 0, none⟩) M.length cap) A (M.set i y) base w (wr.setCell ⟨g, i, none⟩ (.int .u64 y)) := by
  have hm := h.mm (g := g) rfl
  refine ⟨?_, ?_, ?_, ?_, h.bel.setCell (owns_block h.om (g := g) rfl).1 _, h.hs, h.hr, by rw [Below.heap_setCell _ _ _ _ (fun e => hm.2.2.2 e.symm)]; exact h.xb, h.nx⟩
  · rw [Below.heap_setCell _ _ _ _ (fun e => hm.2.1 e.symm)]; exact h.box
  · rw [Below.heap_setCell _ _ _ _ (fun e => hm.2.2.1 e.symm)]; exact h.res
  · exact owns_of_block h.oa (fun g' e => Below.heap_setCell _ _ _ _ (fun e' => hm.1 (by rw [e]; exact congrArg some e')))
  · have := (h.om.stored i (.int .u64 y)).1
    rw [map_set_int] at this
    rw [List.length_set]
    exact this

/-- A new block of one cell, say. -/
theorem St.alloc (h : St s r x xc id vote dec done idle va vw A M base w wr) (o : Obj) : St s r x xc id vote dec done idle va vw A M base w (wr.alloc o) := by
  refine ⟨?_, ?_, h.oa.alloc o, h.om.alloc o, h.bel.alloc (Nat.le_trans h.hs (Nat.le_of_lt h.lts)) o, h.hs, h.hr, by rw [Below.heap_alloc _ _ _ h.ltx]; exact h.xb, h.nx⟩
  · rw [Below.heap_alloc _ _ _ h.lts]; exact h.box
  · rw [Below.heap_alloc _ _ _ h.ltr]; exact h.res

/-- Behind an append to the askers. -/
theorem St.grownA {wr' : World} {v' : Value} {A' : List Int} (h : St s r x xc id vote dec done idle va vw A M base w wr) (hg : wr.grownBy wr' va.ownBlock) (ho : wr'.ownsRow base 3 1 v' A'.length (A'.map (Value.int .i64))) :
    wr'.heap[s]? = some (.cells (boxOf id vote dec va vw done idle) 83 (0, 0)) ∧ St s r x xc id vote dec done idle v' vw A' M base w (wr'.setCell ⟨s, 3, none⟩ v') := by
  have ks : wr'.heap[s]? = some (.cells (boxOf id vote dec va vw done idle) 83 (0, 0)) := by
    rw [hg.block s h.lts (fun e => (h.am e.symm).2.1 rfl)]; exact h.box
  have kr : wr'.heap[r]? = some (.cells step0 54 (0, 0)) := by
    rw [hg.block r h.ltr (fun e => (h.am e.symm).2.2.1 rfl)]; exact h.res
  have kx : wr'.heap[x]? = some (.cells xc 54 (0, 0)) := by
    rw [hg.block x h.ltx (fun e => (h.am e.symm).2.2.2 rfl)]; exact h.xb
  have km : wr'.ownsRow base 77 1 vw M.length (M.map (Value.int .u64)) := owns_of_block h.om (fun g e => hg.block g (lt_of_heap (owns_block h.om e).2.choose_spec) (fun e' => (h.mm e).1 e'.symm))
  have kb : Below base w wr' := h.bel.grown hg (Nat.le_trans h.hs (Nat.le_of_lt h.lts)) (fun k e => (owns_block h.oa e).1)
  refine ⟨ks, heap_setCell_at v' ks, ?_, ?_, ?_, kb.setCell h.hs _, h.hs, h.hr, by rw [Below.heap_setCell _ _ _ _ (show x ≠ s from fun e => h.ne_sx e.symm)]; exact kx, h.nx⟩
  · rw [Below.heap_setCell _ _ _ _ (show r ≠ s from fun e => h.ne_sr e.symm)]; exact kr
  · refine owns_of_block ho (fun g e => Below.heap_setCell _ _ _ _ ?_)
    intro e'
    obtain ⟨_, cur, hc⟩ := owns_block ho e
    have : g = s := e'
    rw [this, ks] at hc; simp at hc
  · exact owns_of_block km (fun g e => Below.heap_setCell _ _ _ _ (h.mm e).2.1)
end
end Go.Proofs.Qxb6603956a
