import Derived.Test.Qxb6603956aProg
import Derived.WalkKit
import Derived.WalkSpells
import Derived.WalkLawsBesides
namespace Go.Proofs.Qxb6603956a
open Go.RowKit
set_option linter.unusedVariables false

/-! ### Slices of integers, as a walk reads them -/

/-- The slice value v reads as the numbers zs in the world w. -/
def Slc (K : IntKind) (w : World) (v : Value) (zs : List Int) : Prop :=
  ∃ a cap, v = .slice a zs.length cap ∧ ∀ i, i < zs.length → ∃ b o, a = some ⟨b, o, none⟩ ∧ w.cell? ⟨b, o + i, none⟩ = some (.int K (zs.getD i 0)) ∧ b < w.heap.size

theorem Slc.below {K : IntKind} {w w' : World} {v : Value} {zs : List Int} (h : Slc K w v zs) (hb : Below w.heap.size w w') : Slc K w' v zs := by
  obtain ⟨a, cap, hv, hc⟩ := h
  refine ⟨a, cap, hv, fun i hi => ?_⟩
  obtain ⟨b, o, ha, hcell, hbb⟩ := hc i hi
  exact ⟨b, o, ha, (hb.cell (p := ⟨b, o + i, none⟩) hbb).trans hcell, Nat.lt_of_lt_of_le hbb hb.size⟩

theorem lt_of_heap {w : World} {g : Nat} {x : Obj} (h : w.heap[g]? = some x) : g < w.heap.size := (Array.getElem?_eq_some_iff.1 h).1

theorem Slc.own {K : IntKind} {w : World} {base : Nat} {e : TypeId} {v : Value} {n : Nat} {zs : List Int} (h : w.ownsRow base e 1 v n (zs.map (Value.int K))) : Slc K w v zs := by
  have hl : zs.length = n := by simpa using h.1
  subst hl
  rcases h.2 with ⟨rfl, h0⟩ | ⟨g, cap, cur, rfl, hbg, hg, hnc, hcm, hcs, htake⟩
  · exact ⟨none, 0, by rw [h0], fun i hi => by omega⟩
  · refine ⟨some ⟨g, 0, none⟩, cap, rfl, fun i hi => ⟨g, 0, rfl, ?_, lt_of_heap hg⟩⟩
    rw [Nat.zero_add, h.cellAt i (by omega)]
    simp [List.getElem?_eq_getElem hi]

theorem Slc.nil (K : IntKind) (w : World) : Slc K w (.slice none 0 0) [] := ⟨none, 0, rfl, fun i hi => by simp at hi⟩

/-- The cells of a copy after k rounds. -/
def cpy (K : IntKind) (zs : List Int) (n k : Nat) : List Value := (zs.take k).map (Value.int K) ++ List.replicate (n - k) (Value.int K 0)
theorem cpy_zero (K : IntKind) (zs : List Int) (n : Nat) : cpy K zs n 0 = List.replicate n (Value.int K 0) := by simp [cpy]
theorem cpy_full (K : IntKind) (zs : List Int) (n : Nat) (h : zs.length = n) : cpy K zs n n = zs.map (Value.int K) := by simp [cpy, ← h]
theorem cpy_set (K : IntKind) (zs : List Int) (n k : Nat) (h : zs.length = n) (hk : k < n) : (cpy K zs n k).set k (.int K (zs.getD k 0)) = cpy K zs n (k + 1) := by
  subst h
  have hr : List.replicate (zs.length - k) (Value.int K 0) = Value.int K 0 :: List.replicate (zs.length - (k + 1)) (Value.int K 0) := by
    rw [← List.replicate_succ]; congr 1; omega
  have hl : ((zs.take k).map (Value.int K)).length = k := by simp; omega
  have ht : zs.take (k + 1) = zs.take k ++ [zs.getD k 0] := by
    rw [List.take_succ_eq_append_getElem hk]; simp [List.getElem?_eq_getElem hk]
  unfold cpy
  rw [hr, ht, List.set_append_right _ _ (by omega), hl]
  simp
theorem cpy_at (K : IntKind) (zs : List Int) (n k : Nat) (hk : k < n) (h : zs.length = n) : ∃ v, (cpy K zs n k)[k]? = some v := by
  have : k < (cpy K zs n k).length := by simp [cpy]; omega
  exact ⟨_, List.getElem?_eq_getElem this⟩

theorem Try.info3 : (Try.prog.info? 3).map (fun i => (i.zero, i.size, i.bytes)) = some (some (.int .i64 0), 1, 8) := by kernel_rfl
theorem Try.info77 : (Try.prog.info? 77).map (fun i => (i.zero, i.size, i.bytes)) = some (some (.int .u64 0), 1, 8) := by kernel_rfl

/-! ### The bounds on lengths -/

set_option maxHeartbeats 400000 in
theorem bytes27 (id : Int) (a : Option Addr) (len cap : Nat) (w : World) (h : len ≤ maxLen) :
    Calls Try.prog 27 #[.int .i64 id, .slice a len cap] w fun e w' => e = .returned (.bool (decide (len ≤ 1048576))) ∧ w' = w := by
  unfold maxLen at h
  by_cases hl : len ≤ 1048576
  · go_enter Try.func27, Try.ntmps27
    go_wp2
    go_ret
    exact ⟨by simp [hl], rfl⟩
  · go_enter Try.func27, Try.ntmps27
    go_wp2
    go_ret
    exact ⟨by simp [hl], rfl⟩

/-! ### The two copies -/

/-- Is the slice value nil? -/
def isNilS : Value → Bool
  | .slice none _ _ => true
  | _ => false

set_option maxHeartbeats 400000 in
theorem clone19_nil (cap : Nat) (w : World) :
    Calls Try.prog 19 #[.slice none 0 cap] w fun e w' => e = .returned (.slice none 0 0) ∧ w' = w := by
  have q : ∀ (w : World) (a : Option Addr) (n c n' c' : Nat), (binOp .eql 31 (.slice a n c) (.slice none n' c')).run Try.prog w = .ok (.bool a.isNone) w := fun w a n c n' c' => Lib.run_eql_slice_nil w _ _ a n c n' c' Try.underlying31
  go_enter Try.func19, Try.ntmps19
  go_wp2
  go_ret
  exact ⟨rfl, rfl⟩

set_option maxHeartbeats 400000 in
theorem clone19_some (x : Addr) (len cap : Nat) (zs : List Int) (w : World) (hl : len ≤ 1048576) (hz : zs.length = len)
   (hc : ∀ i, i < len → ∃ b o, x = ⟨b, o, none⟩ ∧ w.cell? ⟨b, o + i, none⟩ = some (.int .i64 (zs.getD i 0)) ∧ b < w.heap.size) :
    Calls Try.prog 19 #[.slice (some x) len cap] w fun e w' => e = .returned (.slice (some ⟨w.heap.size, 0, none⟩) len len) ∧ w'.ownsRow w.heap.size 3 1 (.slice (some ⟨w.heap.size, 0, none⟩) len len) len (zs.map (Value.int .i64)) ∧ Below w.heap.size w w' := by
  have q : ∀ (w : World) (a : Option Addr) (n c n' c' : Nat), (binOp .eql 31 (.slice a n c) (.slice none n' c')).run Try.prog w = .ok (.bool a.isNone) w := fun w a n c n' c' => Lib.run_eql_slice_nil w _ _ a n c n' c' Try.underlying31
  obtain ⟨i0, hi, hz0, hz1, hz2⟩ := info_parts Try.info3
  have HZ : Hid (zs.length = len) := hz
  clear hz
  go_enter Try.func19, Try.ntmps19
  go_wp2_with (at_make; refine wpList_make_full _ rfl _ _ 31 rfl w.heap.size 3 i0 (.int .i64 0) 1 Try.underlying31 hi hz0 hz1 _ _ _ _ len rfl rfl rfl rfl ?b2 ?b3 ?b4 ?_)
  case b2 => rw [hz2]; omega
  case b3 => unfold maxLen; omega
  case b4 => omega
  intro w1 hown hgr
  have hb1 : Below w.heap.size w w1 := (Below.refl _ _).grown hgr (Nat.le_refl _) (by simp)
  have hown1 : w1.ownsRow w.heap.size 3 1 (.slice (some ⟨w.heap.size, 0, none⟩) len len) len (cpy .i64 zs len 0) := by
    rw [cpy_zero, ← toList_madeCells_one]; exact hown
  clear hown hgr q hi hz0 hz1 hz2
  go_wp2
  go_loopw [4] (fun i wr => ∃ k : Nat, k ≤ len ∧ i = .int .i64 k ∧ wr.ownsRow w.heap.size 3 1 (.slice (some ⟨w.heap.size, 0, none⟩) len len) len (cpy .i64 zs len k) ∧ Below w.heap.size w wr) (fun i _ => len - (intOf i).toNat)
  case atStart => exact ⟨0, Nat.zero_le _, rfl, hown1, hb1⟩
  case round =>
    clear hown1 hb1
    obtain ⟨k, hk, rfl, hown, hb⟩ := hrel
    by_cases hlt : k < len
    · obtain ⟨b, o, rfl, hcell, hbb⟩ := hc k hlt
      have g1 : wr.cell? ⟨b, o + k, none⟩ = some (.int .i64 (zs.getD k 0)) := (hb.cell (p := ⟨b, o + k, none⟩) hbb).trans hcell
      obtain ⟨v0, hv0⟩ := cpy_at .i64 zs len k hlt HZ.out
      have g2 : wr.cell? ⟨w.heap.size, k, none⟩ = some v0 := (hown.cellAt k (by omega)).trans hv0
      have g3 : wr.frozen? ⟨w.heap.size, k, none⟩ = false := hown.frozenAt k
      have R := hown.stored k (.int .i64 (zs.getD k 0))
      rw [cpy_set .i64 zs len k HZ.out hlt] at R
      have hb' : Below w.heap.size w (wr.setCell ⟨w.heap.size, k, none⟩ (.int .i64 (zs.getD k 0))) := hb.setCell (Nat.le_refl _) _
      have R1 := R.1
      clear R hown hb hc hv0 hcell
      go_wp2
      go_roundw
      case rel => exact ⟨k + 1, by omega, by go_num, by simpa using R1, by simpa using hb'⟩
      case measure => simp [intOf]; omega
    · have : k = len := by omega
      subst this
      rw [cpy_full _ _ _ HZ.out] at hown
      go_wp2
      go_ret
      exact ⟨rfl, hown, hb⟩

/-- What a copy of v is in the world w. -/
theorem clone19_any (v : Value) (zs : List Int) (w : World) (hl : zs.length ≤ 1048576) (h : Slc .i64 w v zs) :
    Calls Try.prog 19 #[v] w fun e w' => ∃ v', e = .returned v' ∧ w'.ownsRow w.heap.size 3 1 v' zs.length (zs.map (Value.int .i64)) ∧ Below w.heap.size w w' ∧ (isNilS v' = isNilS v) := by
  obtain ⟨a, cap, rfl, hc⟩ := h
  cases a with
  | none =>
    have h0 : zs = [] := by
      cases zs with
      | nil => rfl
      | cons z zs => obtain ⟨b, o, h, _⟩ := hc 0 (by simp); cases h
    subst h0
    refine (clone19_nil cap w).mono ?_
    rintro e w' ⟨rfl, rfl⟩
    exact ⟨_, rfl, World.ownsRow_nil _ _ _ _, Below.refl _ _, rfl⟩
  | some x =>
    refine (clone19_some x zs.length cap zs w hl rfl ?_).mono ?_
    · intro i hi
      obtain ⟨b, o, hx, hcell, hbb⟩ := hc i hi
      exact ⟨b, o, by simpa using hx, hcell, hbb⟩
    · rintro e w' ⟨rfl, hown, hb⟩
      exact ⟨_, rfl, hown, hb, rfl⟩

set_option maxHeartbeats 400000 in
theorem clone22_nil (cap : Nat) (w : World) :
    Calls Try.prog 22 #[.slice none 0 cap] w fun e w' => e = .returned (.slice none 0 0) ∧ w' = w := by
  have q : ∀ (w : World) (a : Option Addr) (n c n' c' : Nat), (binOp .eql 46 (.slice a n c) (.slice none n' c')).run Try.prog w = .ok (.bool a.isNone) w := fun w a n c n' c' => Lib.run_eql_slice_nil w _ _ a n c n' c' Try.underlying46
  go_enter Try.func22, Try.ntmps22
  go_wp2
  go_ret
  exact ⟨rfl, rfl⟩

set_option maxHeartbeats 400000 in
theorem clone22_some (x : Addr) (len cap : Nat) (zs : List Int) (w : World) (hl : len ≤ 1048576) (hz : zs.length = len)
   (hc : ∀ i, i < len → ∃ b o, x = ⟨b, o, none⟩ ∧ w.cell? ⟨b, o + i, none⟩ = some (.int .u64 (zs.getD i 0)) ∧ b < w.heap.size) :
    Calls Try.prog 22 #[.slice (some x) len cap] w fun e w' => e = .returned (.slice (some ⟨w.heap.size, 0, none⟩) len len) ∧ w'.ownsRow w.heap.size 77 1 (.slice (some ⟨w.heap.size, 0, none⟩) len len) len (zs.map (Value.int .u64)) ∧ Below w.heap.size w w' := by
  have q : ∀ (w : World) (a : Option Addr) (n c n' c' : Nat), (binOp .eql 46 (.slice a n c) (.slice none n' c')).run Try.prog w = .ok (.bool a.isNone) w := fun w a n c n' c' => Lib.run_eql_slice_nil w _ _ a n c n' c' Try.underlying46
  obtain ⟨i0, hi, hz0, hz1, hz2⟩ := info_parts Try.info77
  have HZ : Hid (zs.length = len) := hz
  clear hz
  go_enter Try.func22, Try.ntmps22
  go_wp2_with (at_make; refine wpList_make_full _ rfl _ _ 46 rfl w.heap.size 77 i0 (.int .u64 0) 1 Try.underlying46 hi hz0 hz1 _ _ _ _ len rfl rfl rfl rfl ?b2 ?b3 ?b4 ?_)
  case b2 => rw [hz2]; omega
  case b3 => unfold maxLen; omega
  case b4 => omega
  intro w1 hown hgr
  have hb1 : Below w.heap.size w w1 := (Below.refl _ _).grown hgr (Nat.le_refl _) (by simp)
  have hown1 : w1.ownsRow w.heap.size 77 1 (.slice (some ⟨w.heap.size, 0, none⟩) len len) len (cpy .u64 zs len 0) := by
    rw [cpy_zero, ← toList_madeCells_one]; exact hown
  clear hown hgr q hi hz0 hz1 hz2
  go_wp2
  go_loopw [4] (fun i wr => ∃ k : Nat, k ≤ len ∧ i = .int .i64 k ∧ wr.ownsRow w.heap.size 77 1 (.slice (some ⟨w.heap.size, 0, none⟩) len len) len (cpy .u64 zs len k) ∧ Below w.heap.size w wr) (fun i _ => len - (intOf i).toNat)
  case atStart => exact ⟨0, Nat.zero_le _, rfl, hown1, hb1⟩
  case round =>
    clear hown1 hb1
    obtain ⟨k, hk, rfl, hown, hb⟩ := hrel
    by_cases hlt : k < len
    · obtain ⟨b, o, rfl, hcell, hbb⟩ := hc k hlt
      have g1 : wr.cell? ⟨b, o + k, none⟩ = some (.int .u64 (zs.getD k 0)) := (hb.cell (p := ⟨b, o + k, none⟩) hbb).trans hcell
      obtain ⟨v0, hv0⟩ := cpy_at .u64 zs len k hlt HZ.out
      have g2 : wr.cell? ⟨w.heap.size, k, none⟩ = some v0 := (hown.cellAt k (by omega)).trans hv0
      have g3 : wr.frozen? ⟨w.heap.size, k, none⟩ = false := hown.frozenAt k
      have R := hown.stored k (.int .u64 (zs.getD k 0))
      rw [cpy_set .u64 zs len k HZ.out hlt] at R
      have hb' : Below w.heap.size w (wr.setCell ⟨w.heap.size, k, none⟩ (.int .u64 (zs.getD k 0))) := hb.setCell (Nat.le_refl _) _
      have R1 := R.1
      clear R hown hb hc hv0 hcell
      go_wp2
      go_roundw
      case rel => exact ⟨k + 1, by omega, by go_num, by simpa using R1, by simpa using hb'⟩
      case measure => simp [intOf]; omega
    · have : k = len := by omega
      subst this
      rw [cpy_full _ _ _ HZ.out] at hown
      go_wp2
      go_ret
      exact ⟨rfl, hown, hb⟩

/-- What a copy of v is in the world w. -/
theorem clone22_any (v : Value) (zs : List Int) (w : World) (hl : zs.length ≤ 1048576) (h : Slc .u64 w v zs) :
    Calls Try.prog 22 #[v] w fun e w' => ∃ v', e = .returned v' ∧ w'.ownsRow w.heap.size 77 1 v' zs.length (zs.map (Value.int .u64)) ∧ Below w.heap.size w w' ∧ (isNilS v' = isNilS v) := by
  obtain ⟨a, cap, rfl, hc⟩ := h
  cases a with
  | none =>
    have h0 : zs = [] := by
      cases zs with
      | nil => rfl
      | cons z zs => obtain ⟨b, o, h, _⟩ := hc 0 (by simp); cases h
    subst h0
    refine (clone22_nil cap w).mono ?_
    rintro e w' ⟨rfl, rfl⟩
    exact ⟨_, rfl, World.ownsRow_nil _ _ _ _, Below.refl _ _, rfl⟩
  | some x =>
    refine (clone22_some x zs.length cap zs w hl rfl ?_).mono ?_
    · intro i hi
      obtain ⟨b, o, hx, hcell, hbb⟩ := hc i hi
      exact ⟨b, o, by simpa using hx, hcell, hbb⟩
    · rintro e w' ⟨rfl, hown, hb⟩
      exact ⟨_, rfl, hown, hb, rfl⟩

end Go.Proofs.Qxb6603956a
