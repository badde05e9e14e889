/- escapedRune, walked. -/
import Derived.Test.Qxb6604313aBase
import Derived.Laws.BitsLemmas
namespace Go.Proofs.Qxb6604313a
open Go.RowKit
set_option linter.unusedVariables false

/-- The number that the first k of the digits write. -/
def pre (nb : Nat → Int) : Nat → Int
  | 0 => 0
  | k + 1 => pre nb k * 16 + nb k
theorem pre_bound {nb : Nat → Int} (h : ∀ k, 0 ≤ nb k ∧ nb k < 16) (k : Nat) : 0 ≤ pre nb k ∧ pre nb k < 16 ^ k := by
  induction k with
  | zero => simp [pre]
  | succ k ih => have := h k; rw [pre, Int.pow_succ]; omega

theorem i32_or4 (p y : Int) (hp : 0 ≤ p ∧ p < 4096) (hy : 0 ≤ y ∧ y < 16) : bits .or .i32 (p * 16) y = p * 16 + y :=
  bits_join .i32 31 (by decide) wraps_i32 4 (p * 16) y (by omega) (by omega) (by omega) hy.1 hy.2 (by omega)
theorem wraps_u16 (n : Int) (h₀ : 0 ≤ n) (h₁ : n < 2 ^ 16) : IntKind.u16.wrap n = n := by
  simp [IntKind.wrap, IntKind.bits, IntKind.signed]; omega
theorem u16_and15 (x : Int) (h0 : 0 ≤ x) (h1 : x < 65536) : bits .and .u16 x 15 = x % 16 := bits_mask .u16 16 (by decide) wraps_u16 4 (by decide) x h0 h1

set_option maxRecDepth 100000 in
set_option maxHeartbeats 2000000 in
theorem escaped15 (g n cap : Nat) (nb : Nat → Int) (ub : Nat → Bool) (w : World) (hn : 6 ≤ n) (hn2 : n ≤ 2097152) (hcap : n ≤ cap) (hcm : cap ≤ maxLen) (hnb : ∀ k, 0 ≤ nb k ∧ nb k < 16)
    (c0 : w.cell? ⟨g, 0, none⟩ = some (.int .u8 92)) (c1 : w.cell? ⟨g, 1, none⟩ = some (.int .u8 117)) (cs : ∀ k, k < 4 → w.cell? ⟨g, 2 + k, none⟩ = some (.int .u8 (hexOut (nb k) (ub k)))) :
    Calls Try.prog 15 #[.slice (some ⟨g, 0, none⟩) n cap] w fun e w' => e = .returned (.int .i32 (pre nb 4)) ∧ w = w' := by
  have CS := hideIt cs
  have HN := hideIt hnb
  unfold maxLen at hcm
  clear cs hnb
  go_enter Try.func15, Try.ntmps15
  go_wp2_with fail
  go_loop [3, 25] (fun x y => ∃ k : Nat, k ≤ 4 ∧ x = .int .i32 (pre nb k) ∧ y = .int .i64 k) (fun _ y => 4 - (intOf y).toNat)
  case atStart => exact ⟨0, by omega, rfl, rfl⟩
  case round =>
    obtain ⟨k, hk, rfl, rfl⟩ := hrel
    by_cases hlt : k < 4
    · have g1 := CS.out k hlt
      have hb := HN.out k
      have hp : 0 ≤ pre nb k ∧ pre nb k < 4096 := by
        have := pre_bound HN.out k
        have h4 : k = 0 ∨ k = 1 ∨ k = 2 ∨ k = 3 := by omega
        rcases h4 with rfl | rfl | rfl | rfl <;> simp at this <;> omega
      have HE := hideIt (show pre nb (k + 1) = pre nb k * 16 + nb k from rfl)
      go_wp2_with (go_at_call 17; refine (hexDigit17 _ _ _ hb.1 hb.2).mono ?_; rintro e w' ⟨rfl, rfl⟩)
      refine ⟨⟨k + 1, by omega, ?_, by go_num⟩, ?_⟩
      · rw [HE.out, i32_or4 _ _ hp hb]
      · simp [intOf]; omega
    · obtain rfl : k = 4 := by omega
      go_wp2_with fail
      go_ret
      exact ⟨rfl, rfl⟩

theorem zzescaped10 (g n cap : Nat) (nb : Nat → Int) (ub : Nat → Bool) (w : World) (hn : 6 ≤ n) (hn2 : n ≤ 2097152) (hcap : n ≤ cap) (hcm : cap ≤ maxLen) (hnb : ∀ k, 0 ≤ nb k ∧ nb k < 16)
    (c0 : w.cell? ⟨g, 0, none⟩ = some (.int .u8 92)) (c1 : w.cell? ⟨g, 1, none⟩ = some (.int .u8 117)) (cs : ∀ k, k < 4 → w.cell? ⟨g, 2 + k, none⟩ = some (.int .u8 (hexOut (nb k) (ub k)))) :
    Calls Try.prog 10 #[.slice (some ⟨g, 0, none⟩) n cap] w fun e w' => e = .returned (.int .i32 (pre nb 4)) ∧ w = w' := by
  have CS := hideIt cs
  have HN := hideIt hnb
  clear cs hnb
  go_enter Try.func10, Try.ntmps10
  go_wp2_with fail
  refine (escaped15 g n cap nb ub w hn hn2 hcap hcm HN.out c0 c1 CS.out).mono ?_
  rintro e w' ⟨rfl, rfl⟩
  go_wp2_with fail
  go_ret
  exact ⟨rfl, rfl⟩

/-- The k-th of the four digits of a 16-bit code. -/
def nib (code : Int) : Nat → Int
  | 0 => code / 4096 % 16
  | 1 => code / 256 % 16
  | 2 => code / 16 % 16
  | _ => code % 16
theorem nib_bound (code : Int) (k : Nat) : 0 ≤ nib code k ∧ nib code k < 16 := by
  unfold nib; split <;> omega
theorem pre_nib (code : Int) (h0 : 0 ≤ code) (h1 : code < 65536) : pre (nib code) 4 = code := by
  simp [pre, nib]; omega

end Go.Proofs.Qxb6604313a
