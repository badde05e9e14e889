/- (*standing).ask where the decision is not known. -/
import Derived.Test.Qxb6603956aState
import Derived.BigQuiet
import Derived.Deep.QuietTactic
namespace Go.Proofs.Qxb6603956a
open Go.RowKit
set_option linter.unusedVariables false

theorem cell_new1 (W : World) (n : Nat) (h : n = W.heap.size) (v : Value) (t : TypeId) : ∀ j u, [v][j]? = some u → (W.alloc (.cells #[v] t)).cell? ((⟨n, 0, none⟩ : Addr).add j) = some u := by
  intro j u hj
  subst h
  match j, hj with
  | 0, hj =>
    simp at hj; subst hj
    have : (⟨W.heap.size, 0, none⟩ : Addr).add 0 = ⟨W.heap.size, 0, none⟩ := rfl
    rw [this]
    unfold World.cell?
    rw [show (W.alloc (.cells #[v] t)).heap[W.heap.size]? = some (.cells #[v] t) from heap_alloc_new W _]
    rfl

section
variable {s r x : Nat} {xc : Array Value} {id vote dec done idle : Int} {va vw : Value} {A M : List Int} {base : Nat} {w wr : World}

theorem St.zeros {wr' : World} {v' : Value} {k : Nat} {M1 : List Int} (hM1 : M1 = M ++ List.replicate k 0) (h : St s r x xc id vote dec done idle va vw A M base w wr) (hk : 0 < k) (ho : wr'.ownsRow base 77 1 v' (M.length + k) (M.map (Value.int .u64) ++ List.replicate k (.int .u64 0))) (hg : wr.grownBy wr' vw.ownBlock) :
    ∃ g cap, v' = .slice (some ⟨g, 0, none⟩) M1.length cap ∧ wr'.frozen? ⟨s, 4, none⟩ = false ∧ wr'.cell? ⟨s, 4, none⟩ = some vw ∧ St s r x xc id vote dec done idle va v' A M1 base w (wr'.setCell ⟨s, 4, none⟩ v') := by
  subst hM1
  have e : (M ++ List.replicate k 0).length = M.length + k := by simp
  have ho' : wr'.ownsRow base 77 1 v' (M ++ List.replicate k 0).length ((M ++ List.replicate k 0).map (Value.int .u64)) := by
    rw [e, List.map_append, List.map_replicate]; exact ho
  obtain ⟨ks, S⟩ := h.grownM hg ho'
  rcases ho.2 with ⟨_, h0⟩ | ⟨g, cap, cur, hv, _⟩
  · omega
  · exact ⟨g, cap, by rw [e]; exact hv, by simp [World.frozen?, ks], by simp [World.cell?, ks, boxOf], S⟩

theorem St.rAt (h : St s r x xc id vote dec done idle va vw A M base w wr) (j : Nat) : wr.cell? ⟨r, j, none⟩ = step0[j]? := by simp [World.cell?, h.res]
theorem St.zr (h : St s r x xc id vote dec done idle va vw A M base w wr) (j : Nat) : wr.frozen? ⟨r, j, none⟩ = false := by simp [World.frozen?, h.res]
theorem St.setRes (h : St s r x xc id vote dec done idle va vw A M base w wr) (j : Nat) (u : Value) (hu : step0.setIfInBounds j u = step0) : St s r x xc id vote dec done idle va vw A M base w (wr.setCell ⟨r, j, none⟩ u) := by
  refine ⟨?_, ?_, ?_, ?_, h.bel.setCell h.hr _, h.hs, h.hr, by rw [Below.heap_setCell _ _ _ _ h.nx]; exact h.xb, h.nx⟩
  · rw [Below.heap_setCell _ _ _ _ h.ne_sr]; exact h.box
  · have := heap_setCell_at (j := j) u h.res; rw [hu] at this; exact this
  · exact owns_of_block h.oa (fun g' e => Below.heap_setCell _ _ _ _ (fun e' => (h.am e).2.2.1 e'))
  · exact owns_of_block h.om (fun g' e => Below.heap_setCell _ _ _ _ (fun e' => (h.mm e).2.2.1 e'))
theorem St.setStep (h : St s r x xc id vote dec done idle va vw A M base w wr) : St s r x xc id vote dec done idle va vw A M base w ((((wr.setCell ⟨r, 0, none⟩ (.slice none 0 0)).setCell ⟨r, 1, none⟩ (.int .u8 0)).setCell ⟨r, 2, none⟩ (.pointer none)).setCell ⟨r, 3, none⟩ (.bool false)) :=
  (((h.setRes 0 _ rfl).setRes 1 _ rfl).setRes 2 _ rfl).setRes 3 _ rfl

theorem St.ends {f : Int} {M0 A0 : List Int} {tmps : Array Value} (h : St s r x xc id vote dec done idle va vw A M base w wr) (ht : tmps[4]? = some (.pointer (some ⟨r, 0, none⟩))) : (results Try.f33 tmps).run Try.prog wr = .ok (.agg step0) wr := by
  have q0 : wr.cell? ⟨r, 0, none⟩ = some (.slice none 0 0) := h.rAt 0
  have q1 : wr.cell? ⟨r, 1, none⟩ = some (.int .u8 0) := h.rAt 1
  have q2 : wr.cell? ⟨r, 2, none⟩ = some (.pointer none) := h.rAt 2
  have q3 : wr.cell? ⟨r, 3, none⟩ = some (.bool false) := h.rAt 3
  simp [results, Try.results33, go_sem, ht, q0, q1, q2, q3, step0]

theorem growM_far {M : List Int} {i : Nat} (h : M.length ≤ i) : growM M i = M ++ List.replicate (i + 1 - M.length) 0 := by unfold growM; rw [if_neg (by omega)]
theorem growM_near {M : List Int} {i : Nat} (h : i < M.length) : growM M i = M := by unfold growM; rw [if_pos h]

theorem askA_had {A M : List Int} {f : Int} (h : askHad M f = true) : askA A M f = A := by unfold askA; rw [if_pos h]
theorem askM_had {M : List Int} {f : Int} (h : askHad M f = true) : askM M f = growM M (f / 64).toNat := by unfold askM; rw [if_pos h]
theorem askA_new {A M : List Int} {f : Int} (h : askHad M f = false) : askA A M f = A ++ [f] := by unfold askA; rw [if_neg (by simp [h])]
theorem askM_new {M : List Int} {f : Int} (h : askHad M f = false) : askM M f = (growM M (f / 64).toNat).set (f / 64).toNat (setB ((growM M (f / 64).toNat).getD (f / 64).toNat 0) f) := by unfold askM; rw [if_neg (by simp [h])]
end

set_option maxRecDepth 100000 in
set_option maxHeartbeats 1000000 in
theorem ask_any (s x : Nat) (xc : Array Value) (id vote done idle f : Int) (va vw : Value) (A M : List Int) (base : Nat) (w : World)
    (hs : w.heap[s]? = some (.cells (boxOf id vote 0 va vw done idle) 83 (0, 0)))
    (ha : w.ownsRow base 3 1 va A.length (A.map (Value.int .i64))) (hm : w.ownsRow base 77 1 vw M.length (M.map (Value.int .u64)))
    (hx : w.heap[x]? = some (.cells xc 54 (0, 0))) (hbase : base ≤ s) (hf0 : 0 ≤ f) (hf1 : f ≤ 1048576) (hA : A.length ≤ 1048576) (hM : M.length ≤ 1048576) :
    Calls Try.prog 33 #[.pointer (some ⟨s, 0, none⟩), .int .i64 f] w fun e w' => ∃ va' vw', e = .returned (.agg step0) ∧
      St s w.heap.size x xc id vote 0 done idle va' vw' (askA A M f) (askM M f) base w w' := by
  have hsz : s < w.heap.size := lt_of_heap hs
  have S0 : St s w.heap.size x xc id vote 0 done idle va vw A M base w (w.alloc (Obj.cells #[Value.slice none 0 0, Value.int IntKind.u8 0, Value.pointer none, Value.bool false] 54)) := by
    refine ⟨?_, heap_alloc_new w _, ha.alloc _, hm.alloc _, (Below.refl _ _).alloc (by omega) _, hbase, by omega, by rw [Below.heap_alloc _ _ _ (lt_of_heap hx)]; exact hx, by have := lt_of_heap hx; omega⟩
    rw [Below.heap_alloc _ _ _ hsz]; exact hs
  obtain ⟨aa, ca, rfl, -⟩ := Slc.own ha
  obtain ⟨aw, cw, rfl, -⟩ := Slc.own hm
  have c2 := S0.c2
  have c4 := S0.c4
  have HS := S0
  clear hs ha hm S0 hx
  by_cases hg : f / 64 < (M.length : Int)
  · obtain ⟨g, rfl, hgb⟩ := own_some HS.om (by omega)
    go_enter Try.func33, Try.ntmps33
    go_wp2
    go_quiet (fail)
    have S2 := HS.drewN nq
    clear HS c2 c4
    generalize (w.alloc (Obj.cells #[Value.slice none 0 0, Value.int IntKind.u8 0, Value.pointer none, Value.bool false] 54)).drewN nq = w2 at *
    have HM1 : Hid (M = growM M (f / 64).toNat) := (growM_near (by omega)).symm
    have c3 := S2.c3
    have c4 := S2.c4
    have z3 := S2.z3 3
    have g2 := own_cell S2.om (f / 64).toNat (by omega)
    have g3 := S2.om.frozenAt (f / 64).toNat
    obtain ⟨y, hy⟩ : ∃ y, y = M.getD (f / 64).toNat 0 := ⟨_, rfl⟩
    rw [← hy] at g2
    have HY : Hid (y = M.getD (f / 64).toNat 0) := hy
    clear hy
    have hsr := S2.mm (g := g) rfl
    have hlt2 := S2.lts
    have hltr := S2.ltr
    have S3 : St s w.heap.size x xc id vote 0 done idle (.slice aa A.length ca) (.slice (some ⟨g, 0, none⟩) M.length cw) A (M.set (f / 64).toNat (bits BinOp.or IntKind.u64 y (IntKind.u64.wrap (2 ^ (f % 64).toNat)))) base w (w2.setCell ⟨g, (f / 64).toNat, none⟩ (.int .u64 (bits BinOp.or IntKind.u64 y (IntKind.u64.wrap (2 ^ (f % 64).toNat))))) := S2.word
    have q0 : w2.cell? ⟨w.heap.size, 0, none⟩ = some (.slice none 0 0) := S2.rAt 0
    have q1 : w2.cell? ⟨w.heap.size, 1, none⟩ = some (.int .u8 0) := S2.rAt 1
    have q2 : w2.cell? ⟨w.heap.size, 2, none⟩ = some (.pointer none) := S2.rAt 2
    have q3 : w2.cell? ⟨w.heap.size, 3, none⟩ = some (.bool false) := S2.rAt 3
    have p0 := S2.zr 0
    have p1 := S2.zr 1
    have p2 := S2.zr 2
    have p3 := S2.zr 3
    cases hh : (bits BinOp.and IntKind.u64 y (IntKind.u64.wrap (2 ^ (f % 64).toNat)) == 0)
    · go_wp2
      have S5 := S2.setStep
      have Hhad : askHad M f = true := by unfold askHad hasB bitOf; rw [← HM1.out, ← HY.out, hh]; rfl
      refine bodyPost_ret (v := .agg step0) (St.ends (f := f) (A0 := A) (M0 := M) S5 rfl) rfl ⟨.slice aa A.length ca, .slice (some ⟨g, 0, none⟩) M.length cw, rfl, ?_⟩
      rw [askA_had Hhad, askM_had Hhad, ← HM1.out]
      exact S5
    · have c3' := S3.c3
      have z3' := S3.z3 3
      obtain ⟨i3, hi3, hz30, hz31, hz32⟩ := info_parts Try.info3
      clear q0 q1 q2 q3 p0 p1 p2 p3 c3 z3
      have hbs := S3.hs
      go_wp2_with (at_builtin; refine wpList_append_own _ rfl (.tmp 69) (.tmp 71) 31 rfl base 3 i3 (.int .i64 0) 1 8 Try.underlying31 hi3 hz30 hz31 hz32 rfl (by decide) _ A.length (A.map (Value.int .i64)) rfl (S3.oa.alloc _) ⟨w2.heap.size, 0, none⟩ 1 1 [.int .i64 f] rfl rfl ?c1 ?c2 ?c3 ?c4 ?c5 ?_)
      case c1 => exact cell_new1 _ _ (by simp [World.setCell]) _ _
      case c2 => intro u hu; simp at hu; subst hu; rfl
      case c3 => unfold maxLen; omega
      case c4 => omega
      case c5 => simp; omega
      intro v' w4 ho hgr hnil
      have ho' : w4.ownsRow base 3 1 v' (A ++ [f]).length ((A ++ [f]).map (Value.int .i64)) := by simpa using ho
      obtain ⟨ks, S4⟩ := (S3.alloc _).grownA hgr ho'
      have hv' : ∃ g' cap2, v' = .slice (some ⟨g', 0, none⟩) (A.length + 1) cap2 := by
        rcases ho.2 with ⟨_, h0⟩ | ⟨g', cap2, cur, hv, _⟩
        · omega
        · exact ⟨g', cap2, hv⟩
      obtain ⟨g', cap2, rfl⟩ := hv'
      have k3 : w4.cell? ⟨s, 3, none⟩ = some (.slice aa A.length ca) := by simp [World.cell?, ks, boxOf]
      have f3 : w4.frozen? ⟨s, 3, none⟩ = false := by simp [World.frozen?, ks]
      have q0 := S4.rAt 0
      have q1 := S4.rAt 1
      have q2 := S4.rAt 2
      have q3 := S4.rAt 3
      have p0 := S4.zr 0
      have p1 := S4.zr 1
      have p2 := S4.zr 2
      have p3 := S4.zr 3
      have Hnew : Hid (askHad M f = false) := by show askHad M f = false; unfold askHad hasB bitOf; rw [← HM1.out, ← HY.out, hh]; rfl
      simp only [step0] at q0 q1 q2 q3
      clear ho ho' hgr hnil ks S2 S3 c3' z3' c4 g2 g3 hi3 hz30 hz31 hz32 hh
      go_wp2
      have S5 := S4.setStep
      refine bodyPost_ret (v := .agg step0) (St.ends (f := f) (A0 := A) (M0 := M) S5 rfl) rfl ⟨.slice (some ⟨g', 0, none⟩) (A.length + 1) cap2, .slice (some ⟨g, 0, none⟩) M.length cw, rfl, ?_⟩
      rw [askA_new Hnew.out, askM_new Hnew.out, ← HM1.out, ← HY.out]
      exact S5
  · have hg' : (M.length : Int) ≤ f / 64 := by omega
    clear hg
    have hzc : ∀ j, (w.alloc (Obj.cells #[Value.slice none 0 0, Value.int IntKind.u8 0, Value.pointer none, Value.bool false] 54)).frozen? ⟨s, j, none⟩ = false := HS.z3
    go_enter Try.func33, Try.ntmps33
    go_wp2
    go_quiet (fail)
    go_wp2
    have S1 := HS.drewN nq
    clear HS c2 c4
    generalize (w.alloc (Obj.cells #[Value.slice none 0 0, Value.int IntKind.u8 0, Value.pointer none, Value.bool false] 54)).drewN nq = w0 at *
    have c4 := S1.c4
    obtain ⟨i0, hi, hz0, hz1, hz2⟩ := info_parts Try.info77
    have hlt := S1.lts
    have hml : 0 < (f / 64 + 1 - M.length).toNat := by omega
    have hbb := S1.hs
    have HM : Hid (IntKind.i64.wrap (IntKind.i64.wrap (f / 64 + 1) - ↑M.length) = ((f / 64 + 1 - M.length).toNat : Int)) := by
      show _ = _
      simp [IntKind.wrap, IntKind.bits, IntKind.signed]; omega
    have HO : Hid (w0.drew.ownsRow base 77 1 (.slice aw M.length cw) M.length (M.map (Value.int .u64))) := S1.drew.om
    have HB : Hid (base ≤ w0.drew.heap.size) := by show base ≤ w0.heap.size; omega
    have S1' := S1.drew
    obtain ⟨M1, hM1⟩ : ∃ M1, M1 = growM M (f / 64).toNat := ⟨_, rfl⟩
    have hM1' : M1 = M ++ List.replicate (f / 64 + 1 - M.length).toNat 0 := by
      rw [hM1, growM_far (by omega)]; congr 2; omega
    have HM1 : Hid (M1 = growM M (f / 64).toNat) := hM1
    have HM1' : Hid (M1 = M ++ List.replicate (f / 64 + 1 - M.length).toNat 0) := hM1'
    have hM1l : f / 64 < (M1.length : Int) := by rw [hM1', List.length_append, List.length_replicate]; omega
    have hM1m : M1.length ≤ 2097152 := by rw [hM1', List.length_append, List.length_replicate]; omega
    clear hM1 hM1'
    go_region_law (refine step_zeros_own rfl (.tmp 33) (.tmp 41) 46 3 rfl base 77 i0 (.int .u64 0) Try.underlying46 Try.underlying3 hi hz0 rfl rfl hz1 hz2 (.slice aw M.length cw) M.length (M.map (Value.int .u64)) rfl HO.out HB.out _ (f / 64 + 1 - M.length).toNat rfl HM.out hml (by omega) (by omega) ?_; intro v' w' ho hgr; obtain ⟨g, cap', rfl, hzz, hcc, S2⟩ := S1'.zeros HM1'.out hml ho hgr)
    all_goals
      clear hzz hcc ho hgr S1' HO HB HM HM1' hml S1 c4 hzc hi hz0 hz1 hz2 hlt hbb
      generalize w'.setCell ⟨s, 4, none⟩ (.slice (some ⟨g, 0, none⟩) M1.length cap') = w2 at *
      clear w'
      have c3 := S2.c3
      have c4 := S2.c4
      have z3 := S2.z3 3
      have g2 := own_cell S2.om (f / 64).toNat (by omega)
      have g3 := S2.om.frozenAt (f / 64).toNat
      obtain ⟨y, hy⟩ : ∃ y, y = M1.getD (f / 64).toNat 0 := ⟨_, rfl⟩
      rw [← hy] at g2
      have HY : Hid (y = M1.getD (f / 64).toNat 0) := hy
      clear hy
      have hsr := S2.mm (g := g) rfl
      have hlt2 := S2.lts
      have hltr := S2.ltr
      have S3 : St s w.heap.size x xc id vote 0 done idle (.slice aa A.length ca) (.slice (some ⟨g, 0, none⟩) M1.length cap') A (M1.set (f / 64).toNat (bits BinOp.or IntKind.u64 y (IntKind.u64.wrap (2 ^ (f % 64).toNat)))) base w (w2.setCell ⟨g, (f / 64).toNat, none⟩ (.int .u64 (bits BinOp.or IntKind.u64 y (IntKind.u64.wrap (2 ^ (f % 64).toNat))))) := S2.word
      have q0 : w2.cell? ⟨w.heap.size, 0, none⟩ = some (.slice none 0 0) := S2.rAt 0
      have q1 : w2.cell? ⟨w.heap.size, 1, none⟩ = some (.int .u8 0) := S2.rAt 1
      have q2 : w2.cell? ⟨w.heap.size, 2, none⟩ = some (.pointer none) := S2.rAt 2
      have q3 : w2.cell? ⟨w.heap.size, 3, none⟩ = some (.bool false) := S2.rAt 3
      have p0 := S2.zr 0
      have p1 := S2.zr 1
      have p2 := S2.zr 2
      have p3 := S2.zr 3
      cases hh : (bits BinOp.and IntKind.u64 y (IntKind.u64.wrap (2 ^ (f % 64).toNat)) == 0)
      · go_wp2
        have S5 := S2.setStep
        have Hhad : askHad M f = true := by unfold askHad hasB bitOf; rw [← HM1.out, ← HY.out, hh]; rfl
        refine bodyPost_ret (v := .agg step0) (St.ends (f := f) (A0 := A) (M0 := M) S5 rfl) rfl ⟨.slice aa A.length ca, .slice (some ⟨g, 0, none⟩) M1.length cap', rfl, ?_⟩
        rw [askA_had Hhad, askM_had Hhad, ← HM1.out]
        exact S5
      · have c3' := S3.c3
        have z3' := S3.z3 3
        obtain ⟨i3, hi3, hz30, hz31, hz32⟩ := info_parts Try.info3
        clear q0 q1 q2 q3 p0 p1 p2 p3 c3 z3
        have hbs := S3.hs
        go_wp2_with (at_builtin; refine wpList_append_own _ rfl (.tmp 69) (.tmp 71) 31 rfl base 3 i3 (.int .i64 0) 1 8 Try.underlying31 hi3 hz30 hz31 hz32 rfl (by decide) _ A.length (A.map (Value.int .i64)) rfl (S3.oa.alloc _) ⟨w2.heap.size, 0, none⟩ 1 1 [.int .i64 f] rfl rfl ?c1 ?c2 ?c3 ?c4 ?c5 ?_)
        case c1 => exact cell_new1 _ _ (by simp [World.setCell]) _ _
        case c2 => intro u hu; simp at hu; subst hu; rfl
        case c3 => unfold maxLen; omega
        case c4 => omega
        case c5 => simp; omega
        intro v' w4 ho hgr hnil
        have ho' : w4.ownsRow base 3 1 v' (A ++ [f]).length ((A ++ [f]).map (Value.int .i64)) := by simpa using ho
        obtain ⟨ks, S4⟩ := (S3.alloc _).grownA hgr ho'
        have hv' : ∃ g' cap'', v' = .slice (some ⟨g', 0, none⟩) (A.length + 1) cap'' := by
          rcases ho.2 with ⟨_, h0⟩ | ⟨g', cap'', cur, hv, _⟩
          · omega
          · exact ⟨g', cap'', hv⟩
        obtain ⟨g', cap'', rfl⟩ := hv'
        have k3 : w4.cell? ⟨s, 3, none⟩ = some (.slice aa A.length ca) := by simp [World.cell?, ks, boxOf]
        have f3 : w4.frozen? ⟨s, 3, none⟩ = false := by simp [World.frozen?, ks]
        have q0 := S4.rAt 0
        have q1 := S4.rAt 1
        have q2 := S4.rAt 2
        have q3 := S4.rAt 3
        have p0 := S4.zr 0
        have p1 := S4.zr 1
        have p2 := S4.zr 2
        have p3 := S4.zr 3
        have Hnew : Hid (askHad M f = false) := by show askHad M f = false; unfold askHad hasB bitOf; rw [← HM1.out, ← HY.out, hh]; rfl
        simp only [step0] at q0 q1 q2 q3
        clear ho ho' hgr hnil ks S2 S3 c3' z3' c4 g2 g3 hi3 hz30 hz31 hz32 hh
        go_wp2
        have S5 := S4.setStep
        refine bodyPost_ret (v := .agg step0) (St.ends (f := f) (A0 := A) (M0 := M) S5 rfl) rfl ⟨.slice (some ⟨g', 0, none⟩) (A.length + 1) cap'', .slice (some ⟨g, 0, none⟩) M1.length cap', rfl, ?_⟩
        rw [askA_new Hnew.out, askM_new Hnew.out, ← HM1.out, ← HY.out]
        exact S5
end Go.Proofs.Qxb6603956a
