/- The bound on lengths, the copy, the digits. -/
import Derived.Test.Qxb6604313aProg
import Derived.WalkKit
import Derived.WalkSpells
import Derived.WalkLawsBesides
namespace Go.Proofs.Qxb6604313a
open Go.RowKit
set_option linter.unusedVariables false

theorem hideIt {p : Prop} (h : p) : Hid p := h
theorem ret_int {k : IntKind} {a b : Int} (h : a = b) : Ending.returned (.int k a) = .returned (.int k b) := by rw [h]
theorem ret_bool {a b : Bool} (h : a = b) : Ending.returned (.bool a) = .returned (.bool b) := by rw [h]
theorem lt_of_heap {w : World} {g : Nat} {x : Obj} (h : w.heap[g]? = some x) : g < w.heap.size := (Array.getElem?_eq_some_iff.1 h).1

/-- The slice value v reads as the numbers zs in the world w. -/
def Slc (K : IntKind) (w : World) (v : Value) (zs : List Int) : Prop :=
  ∃ a cap, v = .slice a zs.length cap ∧ ∀ i, i < zs.length → ∃ b o, a = some ⟨b, o, none⟩ ∧ w.cell? ⟨b, o + i, none⟩ = some (.int K (zs.getD i 0)) ∧ b < w.heap.size

theorem slc_of_row' {K : IntKind} {w : World} {a : Option Addr} {len cap : Nat} {zs : List Int}
    (h : (a = none ∧ len = 0 ∧ cap = 0 ∧ zs = []) ∨ ∃ x, a = some x ∧ len ≤ cap ∧ cap ≤ maxLen ∧ zs.length = cap ∧ (∀ i, i < zs.length → w.cell? (x.add i) = some (.int K (zs.getD i 0))) ∧ ∀ n ∈ zs, (Lit.int K n).wf = true) :
    len ≤ maxLen ∧ (zs.take len).length = len ∧ Slc K w (.slice a len cap) (zs.take len) ∧ ∀ n ∈ zs.take len, (Lit.int K n).wf = true := by
  rcases h with ⟨rfl, rfl, rfl, rfl⟩ | ⟨x, rfl, hlc, hcm, hz, hcell, hwf⟩
  · exact ⟨by decide, rfl, ⟨none, 0, rfl, fun i hi => by simp at hi⟩, fun n hn => by simp at hn⟩
  · have hl : (zs.take len).length = len := by rw [List.length_take]; omega
    refine ⟨by omega, hl, ⟨some x, cap, by rw [hl], fun i hi => ?_⟩, fun n hn => hwf n (List.mem_of_mem_take hn)⟩
    rw [hl] at hi
    have hc := hcell i (by omega)
    obtain ⟨b, o, spot⟩ := x
    have hspot : spot = none := by simpa [Addr.add] using World.cell?_spot (hcell 0 (by omega))
    subst hspot
    have ha : (⟨b, o, none⟩ : Addr).add i = ⟨b, o + i, none⟩ := by unfold Addr.add; split <;> simp_all
    rw [ha] at hc
    refine ⟨b, o, rfl, ?_, World.block_lt_of_cell? w _ hc⟩
    rw [hc]
    simp [hi]

/-- The cells of a copy after k rounds. -/
def cpy (K : IntKind) (zs : List Int) (n k : Nat) : List Value := (zs.take k).map (Value.int K) ++ List.replicate (n - k) (Value.int K 0)
theorem cpy_zero (K : IntKind) (zs : List Int) (n : Nat) : cpy K zs n 0 = List.replicate n (Value.int K 0) := by simp [cpy]
theorem cpy_full (K : IntKind) (zs : List Int) (n : Nat) (h : zs.length = n) : cpy K zs n n = zs.map (Value.int K) := by simp [cpy, ← h]
theorem cpy_set (K : IntKind) (zs : List Int) (n k : Nat) (h : zs.length = n) (hk : k < n) : (cpy K zs n k).set k (.int K (zs.getD k 0)) = cpy K zs n (k + 1) := by
  subst h
  have hr : List.replicate (zs.length - k) (Value.int K 0) = Value.int K 0 :: List.replicate (zs.length - (k + 1)) (Value.int K 0) := by
    rw [← List.replicate_succ]; congr 1; omega
  have hl : ((zs.take k).map (Value.int K)).length = k := by simp; omega
  have ht : zs.take (k + 1) = zs.take k ++ [zs.getD k 0] := by
    rw [List.take_succ_eq_append_getElem hk]; simp [List.getElem?_eq_getElem hk]
  unfold cpy
  rw [hr, ht, List.set_append_right _ _ (by omega), hl]
  simp
theorem cpy_at (K : IntKind) (zs : List Int) (n k : Nat) (hk : k < n) (h : zs.length = n) : ∃ v, (cpy K zs n k)[k]? = some v := by
  have : k < (cpy K zs n k).length := by simp [cpy]; omega
  exact ⟨_, List.getElem?_eq_getElem this⟩

theorem Try.info5 : (Try.prog.info? 5).map (fun i => (i.zero, i.size, i.bytes)) = some (some (.int .u8 0), 1, 1) := by kernel_rfl

set_option maxHeartbeats 400000 in
theorem bytes7 (x y : Int) (a : Option Addr) (len cap : Nat) (w : World) (h : len ≤ maxLen) :
    Calls Try.prog 7 #[.int .u16 x, .int .u8 y, .slice a len cap] w fun e w' => e = .returned (.bool (decide (len ≤ 1048576))) ∧ w' = w := by
  unfold maxLen at h
  by_cases hl : len ≤ 1048576
  · go_enter Try.func7, Try.ntmps7
    go_wp2
    go_ret
    exact ⟨by simp [hl], rfl⟩
  · go_enter Try.func7, Try.ntmps7
    go_wp2
    go_ret
    exact ⟨by simp [hl], rfl⟩

/-! ### The copy -/
set_option maxHeartbeats 400000 in
theorem clone_nil (cap : Nat) (w : World) :
    Calls Try.prog 8 #[.slice none 0 cap] w fun e w' => e = .returned (.slice none 0 0) ∧ w' = w := by
  have q : ∀ (w : World) (a : Option Addr) (n c n' c' : Nat), (binOp .eql 23 (.slice a n c) (.slice none n' c')).run Try.prog w = .ok (.bool a.isNone) w := fun w a n c n' c' => Lib.run_eql_slice_nil w _ _ a n c n' c' Try.underlying23
  go_enter Try.func8, Try.ntmps8
  go_wp2
  go_ret
  exact ⟨rfl, rfl⟩

set_option maxHeartbeats 400000 in
theorem clone_some (x : Addr) (len cap : Nat) (zs : List Int) (w : World) (hl : len ≤ 1048576) (hz : zs.length = len)
   (hc : ∀ i, i < len → ∃ b o, x = ⟨b, o, none⟩ ∧ w.cell? ⟨b, o + i, none⟩ = some (.int .u8 (zs.getD i 0)) ∧ b < w.heap.size) :
    Calls Try.prog 8 #[.slice (some x) len cap] w fun e w' => e = .returned (.slice (some ⟨w.heap.size, 0, none⟩) len len) ∧ w'.ownsRow w.heap.size 5 1 (.slice (some ⟨w.heap.size, 0, none⟩) len len) len (zs.map (Value.int .u8)) ∧ Below w.heap.size w w' := by
  have q : ∀ (w : World) (a : Option Addr) (n c n' c' : Nat), (binOp .eql 23 (.slice a n c) (.slice none n' c')).run Try.prog w = .ok (.bool a.isNone) w := fun w a n c n' c' => Lib.run_eql_slice_nil w _ _ a n c n' c' Try.underlying23
  obtain ⟨i0, hi, hz0, hz1, hz2⟩ := info_parts Try.info5
  have HZ : Hid (zs.length = len) := hz
  clear hz
  go_enter Try.func8, Try.ntmps8
  go_wp2_with (at_make; refine wpList_make_full _ rfl _ _ 23 rfl w.heap.size 5 i0 (.int .u8 0) 1 Try.underlying23 hi hz0 hz1 _ _ _ _ len rfl rfl rfl rfl ?b2 ?b3 ?b4 ?_)
  case b2 => rw [hz2]; omega
  case b3 => unfold maxLen; omega
  case b4 => omega
  intro w1 hown hgr
  have hb1 : Below w.heap.size w w1 := (Below.refl _ _).grown hgr (Nat.le_refl _) (by simp)
  have hown1 : w1.ownsRow w.heap.size 5 1 (.slice (some ⟨w.heap.size, 0, none⟩) len len) len (cpy .u8 zs len 0) := by
    rw [cpy_zero, ← toList_madeCells_one]; exact hown
  clear hown hgr q hi hz0 hz1 hz2
  go_wp2
  go_loopw [4] (fun i wr => ∃ k : Nat, k ≤ len ∧ i = .int .i64 k ∧ wr.ownsRow w.heap.size 5 1 (.slice (some ⟨w.heap.size, 0, none⟩) len len) len (cpy .u8 zs len k) ∧ Below w.heap.size w wr) (fun i _ => len - (intOf i).toNat)
  case atStart => exact ⟨0, Nat.zero_le _, rfl, hown1, hb1⟩
  case round =>
    clear hown1 hb1
    obtain ⟨k, hk, rfl, hown, hb⟩ := hrel
    by_cases hlt : k < len
    · obtain ⟨b, o, rfl, hcell, hbb⟩ := hc k hlt
      have g1 : wr.cell? ⟨b, o + k, none⟩ = some (.int .u8 (zs.getD k 0)) := (hb.cell (p := ⟨b, o + k, none⟩) hbb).trans hcell
      obtain ⟨v0, hv0⟩ := cpy_at .u8 zs len k hlt HZ.out
      have g2 : wr.cell? ⟨w.heap.size, k, none⟩ = some v0 := (hown.cellAt k (by omega)).trans hv0
      have g3 : wr.frozen? ⟨w.heap.size, k, none⟩ = false := hown.frozenAt k
      have R := hown.stored k (.int .u8 (zs.getD k 0))
      rw [cpy_set .u8 zs len k HZ.out hlt] at R
      have hb' : Below w.heap.size w (wr.setCell ⟨w.heap.size, k, none⟩ (.int .u8 (zs.getD k 0))) := hb.setCell (Nat.le_refl _) _
      have R1 := R.1
      clear R hown hb hc hv0 hcell
      go_wp2
      go_roundw
      case rel => exact ⟨k + 1, by omega, by go_num, by simpa using R1, by simpa using hb'⟩
      case measure => simp [intOf]; omega
    · have : k = len := by omega
      subst this
      rw [cpy_full _ _ _ HZ.out] at hown
      go_wp2
      go_ret
      exact ⟨rfl, hown, hb⟩


theorem clone_any (v : Value) (zs : List Int) (w : World) (hl : zs.length ≤ 1048576) (h : Slc .u8 w v zs) :
    Calls Try.prog 8 #[v] w fun e w' => ∃ a, e = .returned (.slice a zs.length zs.length) ∧ w'.ownsRow w.heap.size 5 1 (.slice a zs.length zs.length) zs.length (zs.map (Value.int .u8)) ∧ Below w.heap.size w w' := by
  obtain ⟨a, cap, rfl, hc⟩ := h
  cases a with
  | none =>
    have h0 : zs = [] := by
      cases zs with
      | nil => rfl
      | cons z zs => obtain ⟨b, o, h, _⟩ := hc 0 (by simp); cases h
    subst h0
    refine (clone_nil cap w).mono ?_
    rintro e w' ⟨rfl, rfl⟩
    exact ⟨_, rfl, World.ownsRow_nil _ _ _ _, Below.refl _ _⟩
  | some x =>
    refine (clone_some x zs.length cap zs w hl rfl ?_).mono ?_
    · intro i hi
      obtain ⟨b, o, hx, hcell, hbb⟩ := hc i hi
      exact ⟨b, o, by simpa using hx, hcell, hbb⟩
    · rintro e w' ⟨rfl, hown, hb⟩
      exact ⟨_, rfl, hown, hb⟩

/-! ### The digits -/
def hexOut (v : Int) (u : Bool) : Int := if v < 10 then v + 48 else if u then v + 55 else v + 87

set_option maxHeartbeats 1000000 in
theorem hexOut9 (v : Int) (u : Bool) (w : World) (h0 : 0 ≤ v) (h1 : v < 16) :
    Calls Try.prog 9 #[.int .u16 v, .bool u] w fun e w' => e = .returned (.int .u8 (hexOut v u)) ∧ w = w' := by
  by_cases hv : v < 10
  · have HH : Hid (hexOut v u = v + 48) := by show _ = _; simp [hexOut, hv]
    go_enter Try.func9, Try.ntmps9
    go_wp2
    go_ret
    exact ⟨by rw [HH.out]; go_num, rfl⟩
  · cases u
    · have HH : Hid (hexOut v false = v + 87) := by show _ = _; simp [hexOut, hv]
      go_enter Try.func9, Try.ntmps9
      go_wp2
      go_ret
      exact ⟨by rw [HH.out]; go_num, rfl⟩
    · have HH : Hid (hexOut v true = v + 55) := by show _ = _; simp [hexOut, hv]
      go_enter Try.func9, Try.ntmps9
      go_wp2
      go_ret
      exact ⟨by rw [HH.out]; go_num, rfl⟩

set_option maxHeartbeats 1000000 in
theorem hexDigit17 (v : Int) (u : Bool) (w : World) (h0 : 0 ≤ v) (h1 : v < 16) :
    Calls Try.prog 17 #[.int .u8 (hexOut v u)] w fun e w' => e = .returned (.int .i32 v) ∧ w = w' := by
  by_cases hv : v < 10
  · have HH : hexOut v u = v + 48 := by simp [hexOut, hv]
    rw [HH]
    clear HH
    go_enter Try.func17, Try.ntmps17
    go_wp2
    go_ret
    exact ⟨by go_num, rfl⟩
  · cases u
    · have HH : hexOut v false = v + 87 := by simp [hexOut, hv]
      rw [HH]
      clear HH
      go_enter Try.func17, Try.ntmps17
      go_wp2
      go_ret
      exact ⟨by go_num, rfl⟩
    · have HH : hexOut v true = v + 55 := by simp [hexOut, hv]
      rw [HH]
      clear HH
      go_enter Try.func17, Try.ntmps17
      go_wp2
      go_ret
      exact ⟨by go_num, rfl⟩

end Go.Proofs.Qxb6604313a
