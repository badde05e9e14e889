/- The grammar's strings, walked. -/
import Derived.Test.Qxb6604001aJSmall
namespace Go.Proofs.Qxb6604001a
open Go.RowKit
set_option linter.unusedVariables false

def SAns (zs : List Int) (i : Nat) (r : Int) : Prop := r = -1 ∨ ∃ e : Nat, r = e ∧ StrPath zs (i + 1) e

/-- A scan from j ends as one from i + 1 does. -/
def Leads (zs : List Int) (i j : Nat) : Prop := i < j ∧ j ≤ zs.length ∧ ∀ e, StrPath zs j e → StrPath zs (i + 1) e
theorem Leads.start {zs : List Int} {i : Nat} (h : i < zs.length) : Leads zs i (i + 1) := ⟨by omega, h, fun _ h => h⟩
theorem Leads.other {zs : List Int} {i j : Nat} (h : Leads zs i j) (hj : j < zs.length) (h1 : zs.getD j 0 ≠ 34) (h2 : zs.getD j 0 ≠ 92) : Leads zs i (j + 1) :=
  ⟨by have := h.1; omega, hj, fun e he => h.2.2 e (.other h1 h2 he)⟩
theorem Leads.esc {zs : List Int} {i j : Nat} (h : Leads zs i j) (hj : j + 1 < zs.length) (h2 : zs.getD j 0 = 92) : Leads zs i (j + 2) :=
  ⟨by have := h.1; omega, hj, fun e he => h.2.2 e (.esc h2 he)⟩
theorem Leads.done {zs : List Int} {i j : Nat} (h : Leads zs i j) (hj : j < zs.length) (h2 : zs.getD j 0 = 34) : SAns zs i ((j : Int) + 1) :=
  .inr ⟨j + 1, by simp, h.2.2 _ (.quote hj h2)⟩
theorem hex_not {c : Int} (h : isHex c = true) : c ≠ 34 ∧ c ≠ 92 := by
  simp [isHex, isDig] at h; omega
theorem Leads.six {zs : List Int} {i j : Nat} (h : Leads zs i j) (hj : j + 6 ≤ zs.length) (h2 : zs.getD j 0 = 92) (hx : ∀ k, j + 2 ≤ k → k < j + 6 → isHex (zs.getD k 0) = true) : Leads zs i (j + 6) := by
  have a0 := h.esc (by omega) h2
  have a1 := a0.other (by omega) (hex_not (hx (j + 2) (by omega) (by omega))).1 (hex_not (hx (j + 2) (by omega) (by omega))).2
  have a2 := a1.other (by omega) (hex_not (hx (j + 3) (by omega) (by omega))).1 (hex_not (hx (j + 3) (by omega) (by omega))).2
  have a3 := a2.other (by omega) (hex_not (hx (j + 4) (by omega) (by omega))).1 (hex_not (hx (j + 4) (by omega) (by omega))).2
  exact a3.other (by omega) (hex_not (hx (j + 5) (by omega) (by omega))).1 (hex_not (hx (j + 5) (by omega) (by omega))).2

def isEsc (c : Int) : Prop := c = 34 ∨ c = 92 ∨ c = 47 ∨ c = 98 ∨ c = 102 ∨ c = 110 ∨ c = 114 ∨ c = 116
theorem isEsc_not {c : Int} (h : ¬ isEsc c) : (c == 34) = false ∧ (c == 92) = false ∧ (c == 47) = false ∧ (c == 98) = false ∧ (c == 102) = false ∧ (c == 110) = false ∧ (c == 114) = false ∧ (c == 116) = false := by
  unfold isEsc at h; simp; omega

theorem leads_rel {zs : List Int} {i j m : Nat} {x : Int} (h : Leads zs i m) (hx : x = m) (hjm : j < m) :
    (∃ k : Nat, Value.int .i64 x = .int .i64 k ∧ Leads zs i k) ∧ zs.length - (intOf (Value.int .i64 x)).toNat < zs.length - (intOf (Value.int .i64 (j : Int))).toNat := by
  subst hx
  refine ⟨⟨m, rfl, h⟩, ?_⟩
  have := h.2.1
  simp [intOf]; omega

set_option maxRecDepth 100000 in
set_option maxHeartbeats 4000000 in
theorem jstring23 (g i : Nat) (zs : List Int) (w : World) (hl : zs.length ≤ 65536) (hi : i < zs.length) (hc : Cells w g zs) :
    Calls Try.prog 23 #[.slice (some ⟨g, 0, none⟩) zs.length zs.length, .int .i64 i] w fun e w' => (∃ r, e = .returned (.int .i64 r) ∧ SAns zs i r) ∧ w = w' := by
  have HC := hideIt hc
  clear hc
  go_enter Try.func23, Try.ntmps23
  go_wp2_with fail
  go_loop [5] (fun v => ∃ j : Nat, v = .int .i64 j ∧ Leads zs i j) (fun v => zs.length - (intOf v).toNat)
  case atStart => exact ⟨i + 1, by go_num, Leads.start hi⟩
  case round =>
    obtain ⟨j, rfl, hw⟩ := hrel
    have hj := hw.2.1
    have HW := hideIt hw
    clear hw
    by_cases hlt : j < zs.length
    · obtain ⟨c, g1, HCC⟩ := HC.out.at hlt
      by_cases h34 : c = 34
      · subst h34
        go_wp2_with fail
        go_ret
        exact ⟨⟨_, rfl, HW.out.done hlt HCC.out.symm⟩, rfl⟩
      · have b34 : (c == 34) = false := by simpa using h34
        by_cases h32 : c < 32
        · go_wp2_with fail
          go_ret
          exact ⟨⟨-1, rfl, .inl rfl⟩, rfl⟩
        · by_cases h92 : c = 92
          · subst h92
            clear h34 b34 h32
            by_cases hlt1 : j + 1 < zs.length
            · obtain ⟨d, g2, HDD⟩ := HC.out.at hlt1
              by_cases hu : d = 117
              · subst hu
                by_cases h6 : j + 6 ≤ zs.length
                · go_wp2_with fail
                  go_loop [8] (fun v => ∃ k : Nat, v = .int .i64 k ∧ j + 2 ≤ k ∧ k ≤ j + 6 ∧ ∀ m, j + 2 ≤ m → m < k → isHex (zs.getD m 0) = true) (fun v => zs.length - (intOf v).toNat)
                  case atStart => exact ⟨j + 2, by go_num, by omega, by omega, fun m a b => by omega⟩
                  case round =>
                    obtain ⟨k, rfl, hk1, hk2, hh⟩ := hrel
                    have HH := hideIt hh
                    clear hh
                    by_cases hk : k < j + 6
                    · have hkl : k < zs.length := by omega
                      obtain ⟨x, g3, HXX⟩ := HC.out.at hkl
                      cases hs : isHex x
                      · have HS := hideIt hs
                        clear hs
                        go_wp2_with (go_at_call 31; refine (hex_f _ HS.out).mono ?_; rintro e w' ⟨rfl, rfl⟩)
                        go_ret
                        exact ⟨⟨-1, rfl, .inl rfl⟩, rfl⟩
                      · have HS := hideIt hs
                        clear hs
                        go_wp2_with (go_at_call 31; refine (hex_t _ HS.out).mono ?_; rintro e w' ⟨rfl, rfl⟩)
                        go_round
                        case rel =>
                          refine ⟨k + 1, by go_num, by omega, by omega, fun m a b => ?_⟩
                          by_cases hmk : m < k
                          · exact HH.out m a hmk
                          · obtain rfl : m = k := by omega
                            exact HXX.out ▸ HS.out
                        case measure => simp [intOf]; omega
                    · obtain rfl : k = j + 6 := by omega
                      have HL := hideIt (HW.out.six h6 HCC.out.symm HH.out)
                      go_wp2_with fail
                      exact leads_rel HL.out (by omega) (by omega)
                · go_wp2_with fail
                  go_ret
                  exact ⟨⟨-1, rfl, .inl rfl⟩, rfl⟩
              · have bu : (d == 117) = false := by simpa using hu
                have HL := hideIt (HW.out.esc hlt1 HCC.out.symm)
                clear hu
                by_cases he : isEsc d
                · rcases he with rfl | rfl | rfl | rfl | rfl | rfl | rfl | rfl
                  all_goals
                    clear bu
                    go_wp2_with fail
                    exact leads_rel HL.out (by omega) (by omega)
                · obtain ⟨e1, e2, e3, e4, e5, e6, e7, e8⟩ := isEsc_not he
                  clear he
                  go_wp2_with fail
                  go_ret
                  exact ⟨⟨-1, rfl, .inl rfl⟩, rfl⟩
            · go_wp2_with fail
              go_ret
              exact ⟨⟨-1, rfl, .inl rfl⟩, rfl⟩
          · have b92 : (c == 92) = false := by simpa using h92
            have HL := hideIt (HW.out.other hlt (HCC.out ▸ h34) (HCC.out ▸ h92))
            clear h34 h92
            go_wp2_with fail
            exact leads_rel HL.out (by omega) (by omega)
    · go_wp2_with fail
      go_ret
      exact ⟨⟨-1, rfl, .inl rfl⟩, rfl⟩

end Go.Proofs.Qxb6604001a
