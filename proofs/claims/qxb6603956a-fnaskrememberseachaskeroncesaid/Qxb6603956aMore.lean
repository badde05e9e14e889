/- The small callees of FnAskRemembersEachAskerOnce. -/
import Derived.Test.Qxb6603956aCons
import Derived.BigQuiet
import Derived.Deep.QuietTactic
namespace Go.Proofs.Qxb6603956a
open Go.RowKit
set_option linter.unusedVariables false

set_option maxRecDepth 100000 in
set_option maxHeartbeats 400000 in
theorem bytes20 (x0 x1 x2 x5 x6 x7 : Int) (a b : Option Addr) (la ca lb cb : Nat) (w : World) (ha : la ≤ maxLen) (hb : lb ≤ maxLen) :
    Calls Try.prog 20 #[.int .i64 x0, .int .u8 x1, .int .u8 x2, .slice a la ca, .slice b lb cb, .int .i64 x5, .int .i64 x6, .int .i64 x7] w fun e w' => e = .returned (.bool (decide (la + lb ≤ 1048576))) ∧ w' = w := by
  unfold maxLen at ha hb
  by_cases h1 : la ≤ 1048576
  · by_cases h2 : lb ≤ 1048576
    · by_cases h3 : la + lb ≤ 1048576
      · go_enter Try.func20, Try.ntmps20
        go_wp2
        go_ret
        exact ⟨by simp [h3], rfl⟩
      · go_enter Try.func20, Try.ntmps20
        go_wp2
        go_ret
        exact ⟨by simp [h3], rfl⟩
    · have h3 : ¬ (la + lb ≤ 1048576) := by omega
      go_enter Try.func20, Try.ntmps20
      go_wp2
      go_ret
      exact ⟨by simp [h3], rfl⟩
  · have h3 : ¬ (la + lb ≤ 1048576) := by omega
    go_enter Try.func20, Try.ntmps20
    go_wp2
    go_ret
    exact ⟨by simp [h3], rfl⟩

set_option maxRecDepth 100000 in
set_option maxHeartbeats 400000 in
theorem has_any (v : Value) (A : List Int) (x : Int) (w : World) (hA : A.length ≤ 1048576) (hv : Slc .i64 w v A) :
    Calls Try.prog 26 #[v, .int .i64 x] w fun e w' => e = .returned (.bool (decide (x ∈ A))) ∧ w' = w := by
  obtain ⟨a, cap, rfl, hc⟩ := hv
  go_enter Try.func26, Try.ntmps26
  go_wp2
  go_loop [5] (fun i => ∃ k : Nat, k ≤ A.length ∧ i = .int .i64 k ∧ ∀ j, j < k → A.getD j 0 ≠ x) (fun i => A.length - (intOf i).toNat)
  case atStart => exact ⟨0, Nat.zero_le _, rfl, fun j hj => absurd hj (by omega)⟩
  case round =>
    obtain ⟨k, hk, rfl, hno⟩ := hrel
    have Hno : Hid (∀ j, j < k → A.getD j 0 ≠ x) := hno
    clear hno
    by_cases hlt : k < A.length
    · obtain ⟨b, o, rfl, hcell, hbb⟩ := hc k hlt
      obtain ⟨y, hy⟩ : ∃ y, y = A.getD k 0 := ⟨_, rfl⟩
      rw [← hy] at hcell
      have HY : Hid (y = A.getD k 0) := hy
      clear hy hc
      by_cases hyx : y = x
      · have hb : (y == x) = true := by simp [hyx]
        have HX : Hid (y = x) := hyx
        clear hyx
        go_wp2
        go_ret
        refine ⟨ret_bool ?_, rfl⟩
        have : x ∈ A := by
          rw [← HX.out, HY.out, List.getD_eq_getElem?_getD, List.getElem?_eq_getElem hlt]; exact List.getElem_mem hlt
        simp [this]
      · have hb : (y == x) = false := by simp [hyx]
        have HX : Hid (y ≠ x) := hyx
        clear hyx
        go_wp2
        go_round
        case rel =>
          refine ⟨k + 1, by omega, by go_num, fun j hj => ?_⟩
          by_cases e : j = k
          · subst e; rw [← HY.out]; exact HX.out
          · exact Hno.out j (by omega)
        case measure => simp [intOf]; omega
    · go_wp2
      go_ret
      refine ⟨ret_bool ?_, rfl⟩
      have : x ∉ A := by
        intro hm
        obtain ⟨j, hj, he⟩ := List.mem_iff_getElem.1 hm
        exact Hno.out j (by omega) (by rw [List.getD_eq_getElem?_getD, List.getElem?_eq_getElem hj]; exact he)
      simp [this]

set_option maxRecDepth 100000 in
set_option maxHeartbeats 1000000 in
theorem same24 (v u : Value) (A : List Int) (w : World) (hA : A.length ≤ 1048576) (hv : Slc .i64 w v A) (hu : Slc .i64 w u A) (hn : isNilS v = isNilS u) :
    Calls Try.prog 24 #[v, u] w fun e w' => e = .returned (.bool true) ∧ ∃ n, w' = w.drewN n := by
  have q : ∀ (w : World) (a : Option Addr) (n c n' c' : Nat), (binOp .eql 31 (.slice a n c) (.slice none n' c')).run Try.prog w = .ok (.bool a.isNone) w := fun w a n c n' c' => Lib.run_eql_slice_nil w _ _ a n c n' c' Try.underlying31
  obtain ⟨a, ca, rfl, hc⟩ := hv
  obtain ⟨b, cb, rfl, hd⟩ := hu
  have hab : a.isNone = b.isNone := by cases a <;> cases b <;> simp_all [isNilS]
  obtain ⟨z, hz⟩ : ∃ z, z = b.isNone := ⟨_, rfl⟩
  have hza : a.isNone = z := by rw [hab, hz]
  have hzb : b.isNone = z := hz.symm
  clear hab hz hn
  go_enter Try.func24, Try.ntmps24
  cases z
  all_goals
    go_wp2
    clear q hza hzb
    go_loopw [5] (fun i wr => ∃ k : Nat, k ≤ A.length ∧ i = .int .i64 k ∧ ∃ n, wr = w.drewN n) (fun i _ => A.length - (intOf i).toNat)
    case atStart => exact ⟨0, Nat.zero_le _, rfl, 0, rfl⟩
    case round =>
      obtain ⟨k, hk, rfl, n, rfl⟩ := hrel
      by_cases hlt : k < A.length
      · obtain ⟨b1, o1, rfl, hcell1, -⟩ := hc k hlt
        obtain ⟨b2, o2, rfl, hcell2, -⟩ := hd k hlt
        have hki : (k : Int) < (A.length : Int) := by omega
        clear hc hd
        go_wp2
        go_quiet (fail)
        go_wp2
        go_roundw
        case rel => exact ⟨k + 1, by omega, by go_num, n + nq, by simp⟩
        case measure => simp [intOf]; omega
      · go_wp2
        go_ret
        exact ⟨rfl, n, rfl⟩

set_option maxRecDepth 100000 in
set_option maxHeartbeats 1000000 in
theorem same25 (v u : Value) (A : List Int) (w : World) (hA : A.length ≤ 1048576) (hv : Slc .u64 w v A) (hu : Slc .u64 w u A) (hn : isNilS v = isNilS u) :
    Calls Try.prog 25 #[v, u] w fun e w' => e = .returned (.bool true) ∧ ∃ n, w' = w.drewN n := by
  have q : ∀ (w : World) (a : Option Addr) (n c n' c' : Nat), (binOp .eql 46 (.slice a n c) (.slice none n' c')).run Try.prog w = .ok (.bool a.isNone) w := fun w a n c n' c' => Lib.run_eql_slice_nil w _ _ a n c n' c' Try.underlying46
  obtain ⟨a, ca, rfl, hc⟩ := hv
  obtain ⟨b, cb, rfl, hd⟩ := hu
  have hab : a.isNone = b.isNone := by cases a <;> cases b <;> simp_all [isNilS]
  obtain ⟨z, hz⟩ : ∃ z, z = b.isNone := ⟨_, rfl⟩
  have hza : a.isNone = z := by rw [hab, hz]
  have hzb : b.isNone = z := hz.symm
  clear hab hz hn
  go_enter Try.func25, Try.ntmps25
  cases z
  all_goals
    go_wp2
    clear q hza hzb
    go_loopw [5] (fun i wr => ∃ k : Nat, k ≤ A.length ∧ i = .int .i64 k ∧ ∃ n, wr = w.drewN n) (fun i _ => A.length - (intOf i).toNat)
    case atStart => exact ⟨0, Nat.zero_le _, rfl, 0, rfl⟩
    case round =>
      obtain ⟨k, hk, rfl, n, rfl⟩ := hrel
      by_cases hlt : k < A.length
      · obtain ⟨b1, o1, rfl, hcell1, -⟩ := hc k hlt
        obtain ⟨b2, o2, rfl, hcell2, -⟩ := hd k hlt
        have hki : (k : Int) < (A.length : Int) := by omega
        clear hc hd
        go_wp2
        go_quiet (fail)
        go_wp2
        go_roundw
        case rel => exact ⟨k + 1, by omega, by go_num, n + nq, by simp⟩
        case measure => simp [intOf]; omega
      · go_wp2
        go_ret
        exact ⟨rfl, n, rfl⟩
end Go.Proofs.Qxb6603956a
