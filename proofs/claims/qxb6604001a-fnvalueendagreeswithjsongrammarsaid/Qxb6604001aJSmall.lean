/- The grammar's small functions, walked: white space, words, strings, numbers. -/
import Derived.Test.Qxb6604001aJPlain
import Derived.BigQuiet
import Derived.Deep.QuietTactic
import Derived.Deep.DeepCutAuto
namespace Go.Proofs.Qxb6604001a
open Go.RowKit
set_option linter.unusedVariables false

theorem dig_t {c : Int} (w : World) (h : isDig c = true) : Calls Try.prog 27 #[.int .u8 c] w fun e w' => e = .returned (.bool true) ∧ w = w' :=
  (isDig27 c w).mono fun e w' ⟨a, b⟩ => ⟨h ▸ a, b.symm⟩
theorem dig_f {c : Int} (w : World) (h : isDig c = false) : Calls Try.prog 27 #[.int .u8 c] w fun e w' => e = .returned (.bool false) ∧ w = w' :=
  (isDig27 c w).mono fun e w' ⟨a, b⟩ => ⟨h ▸ a, b.symm⟩
theorem ws_t {c : Int} (w : World) (h : isWs c = true) : Calls Try.prog 29 #[.int .u8 c] w fun e w' => e = .returned (.bool true) ∧ w = w' :=
  (isWs29 c w).mono fun e w' ⟨a, b⟩ => ⟨h ▸ a, b.symm⟩
theorem ws_f {c : Int} (w : World) (h : isWs c = false) : Calls Try.prog 29 #[.int .u8 c] w fun e w' => e = .returned (.bool false) ∧ w = w' :=
  (isWs29 c w).mono fun e w' ⟨a, b⟩ => ⟨h ▸ a, b.symm⟩
theorem hex_t {c : Int} (w : World) (h : isHex c = true) : Calls Try.prog 31 #[.int .u8 c] w fun e w' => e = .returned (.bool true) ∧ w = w' :=
  (isHex31 c w).mono fun e w' ⟨a, b⟩ => ⟨h ▸ a, b.symm⟩
theorem hex_f {c : Int} (w : World) (h : isHex c = false) : Calls Try.prog 31 #[.int .u8 c] w fun e w' => e = .returned (.bool false) ∧ w = w' :=
  (isHex31 c w).mono fun e w' ⟨a, b⟩ => ⟨h ▸ a, b.symm⟩

/-- One byte of the data, under a short name. -/
theorem Cells.at {w : World} {g : Nat} {zs : List Int} (h : Cells w g zs) {i : Nat} (hi : i < zs.length) : ∃ c, w.cell? ⟨g, i, none⟩ = some (.int .u8 c) ∧ Hid (c = zs.getD i 0) := ⟨_, h.1 i hi, rfl⟩

set_option maxRecDepth 100000 in
set_option maxHeartbeats 1000000 in
theorem jws32 (g i : Nat) (zs : List Int) (w : World) (hl : zs.length ≤ 65536) (hi : i ≤ zs.length) (hc : Cells w g zs) :
    Calls Try.prog 32 #[.slice (some ⟨g, 0, none⟩) zs.length zs.length, .int .i64 i] w fun e w' => (∃ j : Nat, e = .returned (.int .i64 j) ∧ Wss zs i j) ∧ w = w' := by
  have HC := hideIt hc
  clear hc
  go_enter Try.func32, Try.ntmps32
  go_wp2_with fail
  go_loop [1] (fun v => ∃ j : Nat, v = .int .i64 j ∧ Wss zs i j) (fun v => zs.length - (intOf v).toNat)
  case atStart => exact ⟨i, rfl, Wss.nil hi⟩
  case round =>
    obtain ⟨j, rfl, hw⟩ := hrel
    have hj := hw.2.1
    have HW := hideIt hw
    clear hw
    by_cases hlt : j < zs.length
    · obtain ⟨c, g1, HCC⟩ := HC.out.at hlt
      cases hs : isWs c
      · have HS := hideIt hs
        clear hs
        go_wp2_with (go_at_call 29; refine (ws_f _ HS.out).mono ?_; rintro e w' ⟨rfl, rfl⟩)
        go_ret
        exact ⟨⟨j, rfl, HW.out⟩, rfl⟩
      · have HS := hideIt hs
        clear hs
        go_wp2_with (go_at_call 29; refine (ws_t _ HS.out).mono ?_; rintro e w' ⟨rfl, rfl⟩)
        go_round
        case rel => exact ⟨j + 1, by go_num, HW.out.next hlt (HCC.out ▸ HS.out)⟩
        case measure => simp [intOf]; omega
    · go_wp2_with fail
      go_ret
      exact ⟨⟨j, rfl, HW.out⟩, rfl⟩

/-- The bytes of a word, as numbers. -/
theorem word_lit {zs : List Int} {i n : Nat} (hn : 0 < n) (hi : i + n ≤ zs.length) (h : ∀ k, k < n → isLit (zs.getD (i + k) 0)) : Ans zs i ((i : Int) + n) := by
  refine .inr ⟨i + n, by simp, by omega, hi, .inr (.inr fun k a b => ?_)⟩
  have := h (k - i) (by omega)
  rwa [show i + (k - i) = k by omega] at this

def LitStr (s : ByteArray) : Prop := 0 < s.size ∧ s.size ≤ 5 ∧ ∀ k (hk : k < s.size), isLit (s[k].toNat : Int)

set_option maxRecDepth 100000 in
set_option maxHeartbeats 1000000 in
theorem jword26 (g i : Nat) (s : ByteArray) (zs : List Int) (w : World) (hl : zs.length ≤ 65536) (hi : i < zs.length) (hc : Cells w g zs) (hs : LitStr s) :
    Calls Try.prog 26 #[.slice (some ⟨g, 0, none⟩) zs.length zs.length, .int .i64 i, .string s] w fun e w' => (∃ r, e = .returned (.int .i64 r) ∧ Ans zs i r) ∧ Below w.heap.size w w' := by
  have HC := hideIt hc
  have hs1 := hs.1
  have hs2 := hs.2.1
  have HS := hideIt hs
  clear hc hs
  by_cases hlen : i + s.size ≤ zs.length
  · go_enter Try.func26, Try.ntmps26
    go_wp2_with fail
    go_loopw [7] (fun v wr => ∃ k : Nat, v = .int .i64 k ∧ k ≤ s.size ∧ (∀ m, m < k → isLit (zs.getD (i + m) 0)) ∧ Below w.heap.size w wr) (fun v _ => s.size - (intOf v).toNat)
    case atStart => exact ⟨0, rfl, by omega, fun m hm => by omega, Below.refl _ _⟩
    case round =>
      obtain ⟨k, rfl, hk, hlit, hb⟩ := hrel
      have HL := hideIt hlit
      clear hlit
      by_cases hlt : k < s.size
      · obtain ⟨c, g1, HCC⟩ := (HC.out.below hb).at (i := i + k) (by omega)
        have hik : i + k < zs.length := by omega
        obtain ⟨d, hd⟩ : ∃ d : Int, d = (s[k].toNat : Int) := ⟨_, rfl⟩
        have HD := hideIt (hd ▸ HS.out.2.2 k hlt)
        by_cases hcd : c = d
        · have b1 : (c != (s[k].toNat : Int)) = false := by simp [hcd, hd]
          have HX : Hid (isLit (zs.getD (i + k) 0)) := by
            show isLit _
            rw [← HCC.out, hcd]; exact HD.out
          clear hcd hd HD
          go_wp2_with fail
          go_quiet (fail)
          go_wp2_with fail
          go_roundw
          case rel =>
            refine ⟨k + 1, by go_num, by omega, fun m hm => ?_, below_drewN hb _⟩
            by_cases hmk : m < k
            · exact HL.out m hmk
            · obtain rfl : m = k := by omega
              exact HX.out
          case measure => simp [intOf]; omega
        · have b1 : (c != (s[k].toNat : Int)) = true := by simp [← hd, hcd]
          clear hcd hd HD
          go_wp2_with fail
          go_quiet (fail)
          go_wp2_with fail
          go_ret
          exact ⟨⟨-1, rfl, Ans.no _ _⟩, below_drewN hb _⟩
      · obtain rfl : k = s.size := by omega
        go_wp2_with fail
        go_ret
        exact ⟨⟨_, rfl, word_lit hs1 hlen HL.out⟩, hb⟩
  · go_enter Try.func26, Try.ntmps26
    go_wp2_with fail
    go_ret
    exact ⟨⟨-1, rfl, Ans.no _ _⟩, Below.refl _ _⟩

end Go.Proofs.Qxb6604001a
