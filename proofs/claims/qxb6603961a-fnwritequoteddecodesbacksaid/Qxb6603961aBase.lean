/- The small callees: the bound on lengths, HasPrefix at one byte, digitRun. -/
import Derived.Test.Qxb6603961aProg
import Derived.Test.Qxb6603961aPlain
import Derived.WalkKit
import Derived.WalkSpells
import Derived.WalkLawsBesides
import Derived.Lib.Strings
namespace Go.Proofs.Qxb6603961a
open Go.RowKit
set_option linter.unusedVariables false

theorem hideIt {p : Prop} (h : p) : Hid p := h
theorem ret_int {k : IntKind} {a b : Int} (h : a = b) : Ending.returned (.int k a) = .returned (.int k b) := by rw [h]
theorem ret_bool {a b : Bool} (h : a = b) : Ending.returned (.bool a) = .returned (.bool b) := by rw [h]
theorem lt_of_heap {w : World} {g : Nat} {x : Obj} (h : w.heap[g]? = some x) : g < w.heap.size := (Array.getElem?_eq_some_iff.1 h).1

theorem size_list (s : ByteArray) : s.data.toList.length = s.size := by simp
theorem list_at (s : ByteArray) (k : Nat) (h : k < s.size) : s.data.toList.drop k = s[k] :: s.data.toList.drop (k + 1) := by
  rw [List.drop_eq_getElem_cons (by simpa using h)]; rfl

set_option maxHeartbeats 400000 in
theorem bytes8 (s : ByteArray) (b : Bool) (w : World) (h : s.size ≤ maxLen) :
    Calls Try.prog 8 #[.string s, .bool b] w fun e w' => e = .returned (.bool (decide (s.size ≤ 1048576))) ∧ w' = w := by
  unfold maxLen at h
  by_cases hl : s.size ≤ 1048576
  · go_enter Try.func8, Try.ntmps8
    go_wp2
    go_ret
    exact ⟨by simp [hl], rfl⟩
  · go_enter Try.func8, Try.ntmps8
    go_wp2
    go_ret
    exact ⟨by simp [hl], rfl⟩

theorem head_one (s : ByteArray) (c : UInt8) (h : 1 ≤ s.size) : ((s.extract 0 1).toList == [c]) = (s.data.toList.head? == some c) := by
  rw [Lib.extract_toList]
  have hl : 1 ≤ s.data.toList.length := by rw [size_list]; exact h
  cases hx : s.data.toList with
  | nil => rw [hx] at hl; simp at hl
  | cons x l => simp [List.take]

set_option maxRecDepth 100000 in
set_option maxHeartbeats 400000 in
theorem hasPrefix1 (s : ByteArray) (c : UInt8) (w : World) (hs : s.size ≤ 1048576) :
    Calls Try.prog 18 #[.string s, .string ⟨#[c]⟩] w fun e w' => e = .returned (.bool (s.data.toList.head? == some c)) ∧ w' = w := by
  by_cases h : 1 ≤ s.size
  · have H := hideIt (head_one s c h)
    go_enter Try.func18, Try.ntmps18
    go_wp2
    go_ret
    exact ⟨ret_bool H.out, rfl⟩
  · have h0 : s.data.toList = [] := List.eq_nil_of_length_eq_zero (by rw [size_list]; omega)
    have H0 := hideIt h0
    clear h0
    go_enter Try.func18, Try.ntmps18
    go_wp2
    go_ret
    exact ⟨ret_bool (by rw [H0.out]; rfl), rfl⟩

theorem isD_iff (c : UInt8) : isD c = true ↔ 48 ≤ (c.toNat : Int) ∧ (c.toNat : Int) ≤ 57 := by simp [isD]; omega
theorem isD_false (c : UInt8) (h : ¬ (48 ≤ (c.toNat : Int) ∧ (c.toNat : Int) ≤ 57)) : isD c = false := by
  cases h' : isD c
  · rfl
  · exact absurd ((isD_iff c).1 h') h

set_option maxRecDepth 100000 in
set_option maxHeartbeats 400000 in
theorem digitRun_any (s : ByteArray) (w : World) (hs : s.size ≤ 1048576) :
    Calls Try.prog 19 #[.string s] w fun e w' => e = .returned (.int .i64 (dRun s.data.toList)) ∧ w' = w := by
  go_enter Try.func19, Try.ntmps19
  go_wp2
  go_loop [3] (fun i => ∃ k : Nat, k ≤ s.size ∧ i = .int .i64 k ∧ dRun s.data.toList = k + dRun (s.data.toList.drop k)) (fun i => s.size - (intOf i).toNat)
  case atStart => exact ⟨0, Nat.zero_le _, rfl, by simp⟩
  case round =>
    obtain ⟨k, hk, rfl, hd⟩ := hrel
    have HD := hideIt hd
    clear hd
    by_cases hlt : k < s.size
    · have HL := hideIt (list_at s k hlt)
      by_cases h : 48 ≤ (s[k].toNat : Int) ∧ (s[k].toNat : Int) ≤ 57
      · have HE : Hid (dRun s.data.toList = (k + 1) + dRun (s.data.toList.drop (k + 1))) := by
          show _ = _
          rw [HD.out, HL.out, dRun_digit ((isD_iff _).2 h)]; omega
        obtain ⟨h1, h2⟩ := h
        go_wp2
        go_round
        case rel => exact ⟨k + 1, by omega, by go_num, HE.out⟩
        case measure => simp [intOf]; omega
      · have HE : Hid (dRun s.data.toList = k) := by
          show _ = _
          rw [HD.out, HL.out, dRun_not (isD_false _ h)]; omega
        by_cases h1 : 48 ≤ (s[k].toNat : Int)
        · have h2 : 57 < (s[k].toNat : Int) := by omega
          clear h
          go_wp2
          go_ret
          exact ⟨ret_int (by rw [HE.out]), rfl⟩
        · clear h
          go_wp2
          go_ret
          exact ⟨ret_int (by rw [HE.out]), rfl⟩
    · have HE : Hid (dRun s.data.toList = k) := by
        show _ = _
        rw [HD.out, List.drop_of_length_le (by rw [size_list]; omega)]; simp [dRun]
      go_wp2
      go_ret
      exact ⟨ret_int (by rw [HE.out]), rfl⟩
end Go.Proofs.Qxb6603961a
