/- FnScanNumberMatchesAutomaton, walked. -/
import Derived.Test.Qxb6603961aScan
import Derived.Test.Qxb6603961aAuto
namespace Go.Proofs.Qxb6603961a
open Go.RowKit
set_option linter.unusedVariables false

theorem says_same {o : Option Num} {neg neg' en en' ok ok' : Bool} {a a' b b' c c' : ByteArray} (h : Says o neg a b en c ok) (h' : Says' o neg' a' b' en' c' ok') :
    ok = ok' ∧ (ok = true → neg = neg' ∧ a = a' ∧ b = b' ∧ en = en' ∧ c = c') := by
  cases o with
  | none =>
    have h1 : ok = false := h
    have h2 : ok' = false := h'
    subst h1 h2
    exact ⟨rfl, fun h => by cases h⟩
  | some n =>
    obtain ⟨rfl, rfl, rfl, rfl, rfl, rfl⟩ := h
    obtain ⟨rfl, rfl, rfl, rfl, rfl, rfl⟩ := h'
    exact ⟨rfl, fun _ => ⟨rfl, rfl, rfl, rfl, rfl⟩⟩

set_option maxRecDepth 100000 in
set_option maxHeartbeats 2000000 in
theorem law_short (s : ByteArray) (loose : Bool) (w : World) (hs : s.size ≤ 1048576) :
    Calls Try.prog 4 #[.string s, .bool loose] w fun e w' => e = .returned (.bool true) ∧ Below w.heap.size w w' := by
  have hd : decide (s.size ≤ 1048576) = true := by simp [hs]
  go_enter Try.func4, Try.ntmps4
  go_wp2_with fail
  refine (bytes8 s loose _ (by unfold maxLen; omega)).mono ?_
  rintro e w0 ⟨rfl, rfl⟩
  rw [hd]
  go_wp2_with fail
  refine (zzscan_any s loose _ hs).mono ?_
  rintro e w1 ⟨neg, a, b, en, c, ok, rfl, hsay, hb⟩
  have HS := hideIt hsay
  clear hsay
  go_wp2_with fail
  refine (auto_any s loose _ hs).mono ?_
  rintro e w2 ⟨neg', a', b', en', c', ok', rfl, hsay', n, rfl⟩
  obtain ⟨rfl, hsame⟩ := says_same HS.out hsay'
  clear HS hsay'
  cases ok
  · clear hsame
    go_wp2
    go_ret
    exact ⟨rfl, below_drewN hb _⟩
  · obtain ⟨rfl, rfl, rfl, rfl, rfl⟩ := hsame rfl
    clear hsame
    go_wp2
    go_ret
    exact ⟨rfl, below_drewN hb _⟩

set_option maxRecDepth 100000 in
theorem law_long (s : ByteArray) (loose : Bool) (w : World) (hm : s.size ≤ maxLen) (hs : 1048576 < s.size) :
    Calls Try.prog 4 #[.string s, .bool loose] w fun e w' => e = .returned (.bool true) ∧ Below w.heap.size w w' := by
  have hd : decide (s.size ≤ 1048576) = false := by simp; omega
  go_enter Try.func4, Try.ntmps4
  go_wp2_with fail
  refine (bytes8 s loose _ hm).mono ?_
  rintro e w0 ⟨rfl, rfl⟩
  rw [hd]
  go_wp2
  go_ret
  exact ⟨rfl, Below.refl _ _⟩
end Go.Proofs.Qxb6603961a
