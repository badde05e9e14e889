/- The grammar's numbers, walked. -/
import Derived.Test.Qxb6604001aJStr
namespace Go.Proofs.Qxb6604001a
open Go.RowKit
set_option linter.unusedVariables false

/-- A test that holds only where P does. -/
def CondB (P : Prop) (v : Value) : Prop := ∃ b, v = .bool b ∧ (b = true → P)
theorem CondB.no (P : Prop) : CondB P (.bool false) := ⟨false, rfl, fun h => by cases h⟩
theorem CondB.yes {P : Prop} (h : P) : CondB P (.bool true) := ⟨true, rfl, fun _ => h⟩

set_option maxRecDepth 100000 in
set_option maxHeartbeats 4000000 in
theorem jnumber28 (g i : Nat) (zs : List Int) (w : World) (hl : zs.length ≤ 65536) (hi : i < zs.length) (hc : Cells w g zs) :
    Calls Try.prog 28 #[.slice (some ⟨g, 0, none⟩) zs.length zs.length, .int .i64 i] w fun e w' => (∃ r, e = .returned (.int .i64 r) ∧ Ans zs i r) ∧ w = w' := by
  have HC := hideIt hc
  clear hc
  obtain ⟨c, g1, HCC⟩ := HC.out.at hi
  go_enter Try.func28, Try.ntmps28
  go_upto_if 11 with fail
  go_cut [5] (fun v wc => (∃ j : Nat, v = .int .i64 j ∧ Num zs i j) ∧ wc = w)
  case first =>
    cases h45 : (c == 45)
    · go_wp2_with fail
      go_meet
      case rel => exact ⟨⟨i, rfl, Num.nil (by omega)⟩, rfl⟩
    · obtain rfl : c = 45 := by simpa using h45
      go_wp2_with fail
      go_meet
      case rel => exact ⟨⟨i + 1, by go_num, (Num.nil (by omega)).next hi (HCC.out ▸ (.inr (.inr (.inl rfl))))⟩, rfl⟩
  case rest =>
    obtain ⟨⟨j, rfl, hn⟩, hw⟩ := hcut
    subst hw
    clear g1 HCC
    have hj := hn.2.1
    have hij := hn.1
    have HN := hideIt hn
    clear hn
    by_cases hlt : j < zs.length
    · obtain ⟨c, g1, HCC⟩ := HC.out.at hlt
      cases hd : isDig c
      · have HD := hideIt hd
        clear hd
        go_wp2_with (go_at_call 27; refine (dig_f _ HD.out).mono ?_; rintro e w' ⟨rfl, rfl⟩)
        go_ret
        exact ⟨⟨-1, rfl, Ans.no _ _⟩, rfl⟩
      · have HD := hideIt hd
        clear hd
        go_upto_if 30 with (go_at_call 27; refine (dig_t _ HD.out).mono ?_; rintro e w' ⟨rfl, rfl⟩)
        go_cut [5] (fun v wd => (∃ k : Nat, v = .int .i64 k ∧ Num zs i k ∧ i < k) ∧ wd = wc)
        case first =>
          cases h48 : (c == 48)
          · go_wp2_with fail
            simp only [show decide (zs.length ≤ j) = false from decide_eq_false (by omega)]
            go_loop [5] (fun v => ∃ k : Nat, v = .int .i64 k ∧ Num zs i k ∧ j ≤ k) (fun v => zs.length - (intOf v).toNat)
            case atStart => exact ⟨j, rfl, HN.out, Nat.le_refl _⟩
            case round =>
              clear g1
              obtain ⟨k, rfl, hn, hjk⟩ := hrel
              have hk := hn.2.1
              have HN2 := hideIt hn
              clear hn
              by_cases hkl : k < zs.length
              · obtain ⟨x, g2, HXX⟩ := HC.out.at hkl
                cases hx : isDig x
                · have HX := hideIt hx
                  clear hx
                  have hik : i < k := by
                    rcases Nat.lt_or_ge j k with h | h
                    · omega
                    · obtain rfl : k = j := by omega
                      have := HD.out
                      rw [HCC.out, ← HXX.out, HX.out] at this
                      cases this
                  go_wp2_with (go_at_call 27; refine (dig_f _ HX.out).mono ?_; rintro e w' ⟨rfl, rfl⟩)
                  go_meet
                  case rel => exact ⟨⟨k, rfl, HN2.out, hik⟩, rfl⟩
                · have HX := hideIt hx
                  clear hx
                  go_wp2_with (go_at_call 27; refine (dig_t _ HX.out).mono ?_; rintro e w' ⟨rfl, rfl⟩)
                  go_round
                  case rel => exact ⟨k + 1, by go_num, HN2.out.next hkl (dig_num (HXX.out ▸ HX.out)), by omega⟩
                  case measure => simp [intOf]; omega
              · go_wp2_with fail
                go_meet
                case rel => exact ⟨⟨k, rfl, HN2.out, by omega⟩, rfl⟩
          · obtain rfl : c = 48 := by simpa using h48
            go_wp2_with fail
            go_meet
            case rel => exact ⟨⟨j + 1, by go_num, HN.out.next hlt (HCC.out ▸ dig_num rfl), by omega⟩, rfl⟩
        case rest =>
          obtain ⟨⟨j, rfl, hn, hij⟩, hw⟩ := hcut
          subst hw
          clear g1 HCC HD HN hj hlt
          have hj := hn.2.1
          have HN := hideIt hn
          clear hn
          go_upto_region 10 with fail
          go_cut [56] (fun v wd => CondB (j < zs.length ∧ zs.getD j 0 = 46) v ∧ wd = wc)
          case first =>
            by_cases hlt : j < zs.length
            · obtain ⟨c, g1, HCC⟩ := HC.out.at hlt
              cases h46 : (c == 46)
              · go_wp2_with fail
                go_meet
                case rel => exact ⟨CondB.no _, rfl⟩
              · obtain rfl : c = 46 := by simpa using h46
                go_wp2_with fail
                go_meet
                case rel => exact ⟨CondB.yes ⟨hlt, HCC.out.symm⟩, rfl⟩
            · go_wp2_with fail
              go_meet
              case rel => exact ⟨CondB.no _, rfl⟩
          case rest =>
            obtain ⟨⟨b, rfl, hb⟩, hw⟩ := hcut
            subst hw
            have HB := hideIt hb
            clear hb
            go_upto_if 56 with fail
            go_cut [5] (fun v wd => (∃ k : Nat, v = .int .i64 k ∧ Num zs i k ∧ i < k) ∧ wd = wc)
            case first =>
              cases b
              · go_wp2_with fail
                go_meet
                case rel => exact ⟨⟨j, rfl, HN.out, hij⟩, rfl⟩
              · obtain ⟨hlt, h46⟩ := HB.out rfl
                have HN1 := hideIt (HN.out.next hlt (h46 ▸ (.inr (.inr (.inr (.inl rfl))))))
                clear h46 HB
                by_cases hlt1 : j + 1 < zs.length
                · obtain ⟨c, g1, HCC⟩ := HC.out.at hlt1
                  cases hd : isDig c
                  · have HD := hideIt hd
                    clear hd
                    go_wp2_with (go_at_call 27; refine (dig_f _ HD.out).mono ?_; rintro e w' ⟨rfl, rfl⟩)
                    go_ret
                    exact ⟨⟨-1, rfl, Ans.no _ _⟩, rfl⟩
                  · have HD := hideIt hd
                    clear hd
                    go_wp2_with (go_at_call 27; refine (dig_t _ HD.out).mono ?_; rintro e w' ⟨rfl, rfl⟩)
                    try simp only [show decide (zs.length ≤ j + 1) = false from decide_eq_false (by omega)]
                    go_loop [5] (fun v => ∃ k : Nat, v = .int .i64 k ∧ Num zs i k ∧ j + 1 ≤ k) (fun v => zs.length - (intOf v).toNat)
                    case atStart => exact ⟨j + 1, by go_num, HN1.out, Nat.le_refl _⟩
                    case round =>
                      clear g1
                      obtain ⟨k, rfl, hn, hjk⟩ := hrel
                      have hk := hn.2.1
                      have HN2 := hideIt hn
                      clear hn
                      by_cases hkl : k < zs.length
                      · obtain ⟨x, g2, HXX⟩ := HC.out.at hkl
                        cases hx : isDig x
                        · have HX := hideIt hx
                          clear hx
                          go_wp2_with (go_at_call 27; refine (dig_f _ HX.out).mono ?_; rintro e w' ⟨rfl, rfl⟩)
                          go_meet
                          case rel => exact ⟨⟨k, rfl, HN2.out, by omega⟩, rfl⟩
                        · have HX := hideIt hx
                          clear hx
                          go_wp2_with (go_at_call 27; refine (dig_t _ HX.out).mono ?_; rintro e w' ⟨rfl, rfl⟩)
                          go_round
                          case rel => exact ⟨k + 1, by go_num, HN2.out.next hkl (dig_num (HXX.out ▸ HX.out)), by omega⟩
                          case measure => simp [intOf]; omega
                      · go_wp2_with fail
                        go_meet
                        case rel => exact ⟨⟨k, rfl, HN2.out, by omega⟩, rfl⟩
                · go_wp2_with fail
                  go_ret
                  exact ⟨⟨-1, rfl, Ans.no _ _⟩, rfl⟩
            case rest =>
              obtain ⟨⟨j, rfl, hn, hij⟩, hw⟩ := hcut
              subst hw
              clear HB HN hj
              have hj := hn.2.1
              have HN := hideIt hn
              clear hn
              go_upto_region 16 with fail
              go_cut [101] (fun v wd => CondB (j < zs.length ∧ isNumB (zs.getD j 0)) v ∧ wd = wc)
              case first =>
                by_cases hlt : j < zs.length
                · obtain ⟨c, g1, HCC⟩ := HC.out.at hlt
                  cases h101 : (c == 101)
                  · cases h69 : (c == 69)
                    · go_wp2_with fail
                      go_meet
                      case rel => exact ⟨CondB.no _, rfl⟩
                    · obtain rfl : c = 69 := by simpa using h69
                      go_wp2_with fail
                      go_meet
                      case rel => exact ⟨CondB.yes ⟨hlt, HCC.out ▸ (.inr (.inr (.inr (.inr (.inl rfl)))))⟩, rfl⟩
                  · obtain rfl : c = 101 := by simpa using h101
                    go_wp2_with fail
                    go_meet
                    case rel => exact ⟨CondB.yes ⟨hlt, HCC.out ▸ (.inr (.inr (.inr (.inr (.inr rfl)))))⟩, rfl⟩
                · go_wp2_with fail
                  go_meet
                  case rel => exact ⟨CondB.no _, rfl⟩
              case rest =>
                obtain ⟨⟨b, rfl, hb⟩, hw⟩ := hcut
                subst hw
                have HB := hideIt hb
                clear hb
                cases b
                · go_wp2_with fail
                  go_ret
                  exact ⟨⟨_, rfl, HN.out.ans hij⟩, rfl⟩
                · obtain ⟨hlt, hee⟩ := HB.out rfl
                  have HN1 := hideIt (HN.out.next hlt hee)
                  clear hee HB HN
                  go_upto_region 18 with fail
                  go_cut [121] (fun v wd => CondB (j + 1 < zs.length ∧ isNumB (zs.getD (j + 1) 0)) v ∧ wd = wc)
                  case first =>
                    by_cases hlt1 : j + 1 < zs.length
                    · obtain ⟨c, g1, HCC⟩ := HC.out.at hlt1
                      cases h43 : (c == 43)
                      · cases h45 : (c == 45)
                        · go_wp2_with fail
                          go_meet
                          case rel => exact ⟨CondB.no _, rfl⟩
                        · obtain rfl : c = 45 := by simpa using h45
                          go_wp2_with fail
                          go_meet
                          case rel => exact ⟨CondB.yes ⟨hlt1, HCC.out ▸ (.inr (.inr (.inl rfl)))⟩, rfl⟩
                      · obtain rfl : c = 43 := by simpa using h43
                        go_wp2_with fail
                        go_meet
                        case rel => exact ⟨CondB.yes ⟨hlt1, HCC.out ▸ (.inr (.inl rfl))⟩, rfl⟩
                    · go_wp2_with fail
                      go_meet
                      case rel => exact ⟨CondB.no _, rfl⟩
                  case rest =>
                    obtain ⟨⟨b, rfl, hb⟩, hw⟩ := hcut
                    subst hw
                    have HB := hideIt hb
                    clear hb
                    go_upto_if 121 with fail
                    go_cut [5] (fun v wd => (∃ k : Nat, v = .int .i64 k ∧ Num zs i k ∧ i < k) ∧ wd = wc)
                    case first =>
                      cases b
                      · go_wp2_with fail
                        go_meet
                        case rel => exact ⟨⟨j + 1, by go_num, HN1.out, by omega⟩, rfl⟩
                      · obtain ⟨hlt2, hee⟩ := HB.out rfl
                        have HN2 := hideIt (HN1.out.next hlt2 hee)
                        clear hee HB
                        go_wp2_with fail
                        go_meet
                        case rel => exact ⟨⟨j + 2, by go_num, HN2.out, by omega⟩, rfl⟩
                    case rest =>
                      obtain ⟨⟨j, rfl, hn, hij⟩, hw⟩ := hcut
                      subst hw
                      clear HB HN1 hj hlt
                      have hj := hn.2.1
                      have HN := hideIt hn
                      clear hn
                      by_cases hlt : j < zs.length
                      · obtain ⟨c, g1, HCC⟩ := HC.out.at hlt
                        cases hd : isDig c
                        · have HD := hideIt hd
                          clear hd
                          go_wp2_with (go_at_call 27; refine (dig_f _ HD.out).mono ?_; rintro e w' ⟨rfl, rfl⟩)
                          go_ret
                          exact ⟨⟨-1, rfl, Ans.no _ _⟩, rfl⟩
                        · have HD := hideIt hd
                          clear hd
                          go_wp2_with (go_at_call 27; refine (dig_t _ HD.out).mono ?_; rintro e w' ⟨rfl, rfl⟩)
                          try simp only [show decide (zs.length ≤ j) = false from decide_eq_false (by omega)]
                          go_loop [5] (fun v => ∃ k : Nat, v = .int .i64 k ∧ Num zs i k ∧ j ≤ k) (fun v => zs.length - (intOf v).toNat)
                          case atStart => exact ⟨j, rfl, HN.out, Nat.le_refl _⟩
                          case round =>
                            clear g1
                            obtain ⟨k, rfl, hn, hjk⟩ := hrel
                            have hk := hn.2.1
                            have HN2 := hideIt hn
                            clear hn
                            by_cases hkl : k < zs.length
                            · obtain ⟨x, g2, HXX⟩ := HC.out.at hkl
                              cases hx : isDig x
                              · have HX := hideIt hx
                                clear hx
                                go_wp2_with (go_at_call 27; refine (dig_f _ HX.out).mono ?_; rintro e w' ⟨rfl, rfl⟩)
                                go_ret
                                exact ⟨⟨_, rfl, HN2.out.ans (by omega)⟩, rfl⟩
                              · have HX := hideIt hx
                                clear hx
                                go_wp2_with (go_at_call 27; refine (dig_t _ HX.out).mono ?_; rintro e w' ⟨rfl, rfl⟩)
                                go_round
                                case rel => exact ⟨k + 1, by go_num, HN2.out.next hkl (dig_num (HXX.out ▸ HX.out)), by omega⟩
                                case measure => simp [intOf]; omega
                            · go_wp2_with fail
                              go_ret
                              exact ⟨⟨_, rfl, HN2.out.ans (by omega)⟩, rfl⟩
                      · go_wp2_with fail
                        go_ret
                        exact ⟨⟨-1, rfl, Ans.no _ _⟩, rfl⟩
    · go_wp2_with fail
      go_ret
      exact ⟨⟨-1, rfl, Ans.no _ _⟩, rfl⟩

end Go.Proofs.Qxb6604001a
