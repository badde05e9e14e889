/- The grammar's arrays, objects and values, walked: by induction on what is left of the data. -/
import Derived.Test.Qxb6604001aJNum
namespace Go.Proofs.Qxb6604001a
open Go.RowKit
set_option linter.unusedVariables false

/-- JValue at j, as a callee. -/
def JV (g : Nat) (zs : List Int) (j : Nat) : Prop := ∀ w, Cells w g zs →
  Calls Try.prog 20 #[.slice (some ⟨g, 0, none⟩) zs.length zs.length, .int .i64 j] w fun e w' => (∃ r, e = .returned (.int .i64 r) ∧ Ans zs j r) ∧ Below w.heap.size w w'

theorem box_rel {zs : List Int} {i j m : Nat} {w wr : World} {x : Int} (h : Bal zs (i + 1) m) (hm : m ≤ zs.length) (him : i < m) (hb : Below w.heap.size w wr) (hx : x = m) (hjm : j < m) :
    (∃ k : Nat, Value.int .i64 x = .int .i64 k ∧ i < k ∧ k ≤ zs.length ∧ Bal zs (i + 1) k ∧ Below w.heap.size w wr) ∧ zs.length - (intOf (Value.int .i64 x)).toNat < zs.length - (intOf (Value.int .i64 (j : Int))).toNat := by
  subst hx
  refine ⟨⟨m, rfl, him, hm, h, hb⟩, ?_⟩
  simp [intOf]; omega

set_option maxRecDepth 100000 in
set_option maxHeartbeats 4000000 in
theorem jarray24 (g i : Nat) (zs : List Int) (w : World) (hl : zs.length ≤ 65536) (hi : i < zs.length) (hc : Cells w g zs) (h91 : zs.getD i 0 = 91)
    (ih : ∀ j, i < j → j ≤ zs.length → JV g zs j) :
    Calls Try.prog 24 #[.slice (some ⟨g, 0, none⟩) zs.length zs.length, .int .i64 i] w fun e w' => (∃ r, e = .returned (.int .i64 r) ∧ Ans zs i r) ∧ Below w.heap.size w w' := by
  have HC := hideIt hc
  have H91 := hideIt h91
  have IH := hideIt ih
  clear hc h91 ih
  go_enter Try.func24, Try.ntmps24
  go_wp2_with fail
  refine (jws32 g (i + 1) zs w hl (by omega) HC.out).mono ?_
  rintro e w' ⟨⟨j, rfl, hws⟩, rfl⟩
  have hj0 := hws.1
  have hj1 := hws.2.1
  have HB0 := hideIt hws.bal
  clear hws
  go_upto_region 2 with fail
  go_cut [21] (fun v wd => CondB (j < zs.length ∧ zs.getD j 0 = 93) v ∧ wd = w)
  case first =>
    by_cases hlt : j < zs.length
    · obtain ⟨c, g1, HCC⟩ := HC.out.at hlt
      cases h93 : (c == 93)
      · go_wp2_with fail
        go_meet
        case rel => exact ⟨CondB.no _, rfl⟩
      · obtain rfl : c = 93 := by simpa using h93
        go_wp2_with fail
        go_meet
        case rel => exact ⟨CondB.yes ⟨hlt, HCC.out.symm⟩, rfl⟩
    · go_wp2_with fail
      go_meet
      case rel => exact ⟨CondB.no _, rfl⟩
  case rest =>
    obtain ⟨⟨b, rfl, hb⟩, hw⟩ := hcut
    subst hw
    have HB := hideIt hb
    clear hb
    cases b
    · clear HB
      go_wp2_with fail
      go_loopw [5] (fun v wr => ∃ k : Nat, v = .int .i64 k ∧ i < k ∧ k ≤ zs.length ∧ Bal zs (i + 1) k ∧ Below wc.heap.size wc wr) (fun v _ => zs.length - (intOf v).toNat)
      case atStart => exact ⟨j, rfl, by omega, hj1, HB0.out, Below.refl _ _⟩
      case round =>
        clear HB0 hj0 hj1
        obtain ⟨k, rfl, hik, hkl, hbal, hb⟩ := hrel
        have HBAL := hideIt hbal
        clear hbal
        go_wp2_with fail
        refine (IH.out k hik hkl wr (HC.out.below hb)).mono ?_
        rintro e w1 ⟨⟨r, rfl, hr⟩, hb1⟩
        replace hb := hb.trans (hb1.mono hb.size)
        clear hb1
        rcases hr with rfl | ⟨e, rfl, hv⟩
        · go_wp2_with fail
          go_ret
          exact ⟨⟨-1, rfl, Ans.no _ _⟩, hb⟩
        · have hke := hv.1
          have hel := hv.2.1
          have HB1 := hideIt (HBAL.out.trans hv.bal)
          clear hv HBAL
          go_wp2_with fail
          refine (jws32 g e zs w1 hl hel (HC.out.below hb)).mono ?_
          rintro e2 w' ⟨⟨m, rfl, hws⟩, rfl⟩
          have hm0 := hws.1
          have hm1 := hws.2.1
          have HB2 := hideIt (HB1.out.trans hws.bal)
          clear hws HB1
          by_cases hml : m < zs.length
          · obtain ⟨c, g1, HCC⟩ := (HC.out.below hb).at hml
            cases h93 : (c == 93)
            · cases h44 : (c == 44)
              · have n44 : (c != 44) = true := by simpa using h44
                go_wp2_with fail
                go_ret
                exact ⟨⟨-1, rfl, Ans.no _ _⟩, hb⟩
              · obtain rfl : c = 44 := by simpa using h44
                have HB3 := hideIt (HB2.out.trans (Bal.one hml (HCC.out ▸ (by unfold isOth; omega : isOth 44))))
                go_wp2_with fail
                refine (jws32 g (m + 1) zs w1 hl (by omega) (HC.out.below hb)).mono ?_
                rintro e2 w' ⟨⟨n, rfl, hws⟩, rfl⟩
                have hn0 := hws.1
                have hn1 := hws.2.1
                have HB4 := hideIt (HB3.out.trans hws.bal)
                clear hws HB3 HB2
                go_wp2_with fail
                exact box_rel HB4.out hn1 (by omega) hb rfl (by omega)
            · obtain rfl : c = 93 := by simpa using h93
              go_wp2_with fail
              go_ret
              exact ⟨⟨_, rfl, Ans.box (by omega) hml (.inl H91.out) HB2.out (.inl HCC.out.symm)⟩, hb⟩
          · go_wp2_with fail
            go_ret
            exact ⟨⟨-1, rfl, Ans.no _ _⟩, hb⟩
    · obtain ⟨hlt, h93⟩ := HB.out rfl
      have H93 := hideIt h93
      clear h93
      go_wp2_with fail
      go_ret
      exact ⟨⟨_, rfl, Ans.box (by omega) hlt (.inl H91.out) HB0.out (.inl H93.out)⟩, Below.refl _ _⟩

set_option maxRecDepth 100000 in
set_option maxHeartbeats 8000000 in
theorem jobject25 (g i : Nat) (zs : List Int) (w : World) (hl : zs.length ≤ 65536) (hi : i < zs.length) (hc : Cells w g zs) (h91 : zs.getD i 0 = 123)
    (ih : ∀ j, i < j → j ≤ zs.length → JV g zs j) :
    Calls Try.prog 25 #[.slice (some ⟨g, 0, none⟩) zs.length zs.length, .int .i64 i] w fun e w' => (∃ r, e = .returned (.int .i64 r) ∧ Ans zs i r) ∧ Below w.heap.size w w' := by
  have HC := hideIt hc
  have H91 := hideIt h91
  have IH := hideIt ih
  clear hc h91 ih
  go_enter Try.func25, Try.ntmps25
  go_wp2_with fail
  refine (jws32 g (i + 1) zs w hl (by omega) HC.out).mono ?_
  rintro e w' ⟨⟨j, rfl, hws⟩, rfl⟩
  have hj0 := hws.1
  have hj1 := hws.2.1
  have HB0 := hideIt hws.bal
  clear hws
  go_upto_region 2 with fail
  go_cut [22] (fun v wd => CondB (j < zs.length ∧ zs.getD j 0 = 125) v ∧ wd = w)
  case first =>
    by_cases hlt : j < zs.length
    · obtain ⟨c, g1, HCC⟩ := HC.out.at hlt
      cases h93 : (c == 125)
      · go_wp2_with fail
        go_meet
        case rel => exact ⟨CondB.no _, rfl⟩
      · obtain rfl : c = 125 := by simpa using h93
        go_wp2_with fail
        go_meet
        case rel => exact ⟨CondB.yes ⟨hlt, HCC.out.symm⟩, rfl⟩
    · go_wp2_with fail
      go_meet
      case rel => exact ⟨CondB.no _, rfl⟩
  case rest =>
    obtain ⟨⟨b, rfl, hb⟩, hw⟩ := hcut
    subst hw
    have HB := hideIt hb
    clear hb
    cases b
    · clear HB
      go_wp2_with fail
      go_loopw [5] (fun v wr => ∃ k : Nat, v = .int .i64 k ∧ i < k ∧ k ≤ zs.length ∧ Bal zs (i + 1) k ∧ Below wc.heap.size wc wr) (fun v _ => zs.length - (intOf v).toNat)
      case atStart => exact ⟨j, rfl, by omega, hj1, HB0.out, Below.refl _ _⟩
      case round =>
        clear HB0 hj0 hj1
        obtain ⟨k, rfl, hik, hkl, hbal, hb⟩ := hrel
        have HBAL := hideIt hbal
        clear hbal
        by_cases hkl1 : k < zs.length
        · obtain ⟨c, g1, HCC⟩ := (HC.out.below hb).at hkl1
          cases h34 : (c == 34)
          · have n34 : (c != 34) = true := by simpa using h34
            go_wp2_with fail
            go_ret
            exact ⟨⟨-1, rfl, Ans.no _ _⟩, hb⟩
          · obtain rfl : c = 34 := by simpa using h34
            go_wp2_with fail
            refine (jstring23 g k zs wr hl hkl1 (HC.out.below hb)).mono ?_
            rintro e w' ⟨⟨r, rfl, hr⟩, rfl⟩
            rcases hr with rfl | ⟨e, rfl, hp⟩
            · go_wp2_with fail
              go_ret
              exact ⟨⟨-1, rfl, Ans.no _ _⟩, hb⟩
            · have hel := hp.lt
              have HB1 := hideIt (HBAL.out.trans (Bal.strg HCC.out.symm hp))
              clear hp HBAL g1 HCC
              go_wp2_with fail
              refine (jws32 g e zs wr hl hel.2 (HC.out.below hb)).mono ?_
              rintro e2 w' ⟨⟨m, rfl, hws⟩, rfl⟩
              have hm0 := hws.1
              have hm1 := hws.2.1
              have HB2 := hideIt (HB1.out.trans hws.bal)
              clear hws HB1
              by_cases hml : m < zs.length
              · obtain ⟨c, g1, HCC⟩ := (HC.out.below hb).at hml
                cases h58 : (c == 58)
                · have n58 : (c != 58) = true := by simpa using h58
                  go_wp2_with fail
                  go_ret
                  exact ⟨⟨-1, rfl, Ans.no _ _⟩, hb⟩
                · obtain rfl : c = 58 := by simpa using h58
                  have HB3 := hideIt (HB2.out.trans (Bal.one hml (HCC.out ▸ (by unfold isOth; omega : isOth 58))))
                  clear HB2
                  go_wp2_with fail
                  refine (jws32 g (m + 1) zs wr hl (by omega) (HC.out.below hb)).mono ?_
                  rintro e2 w' ⟨⟨n, rfl, hws⟩, rfl⟩
                  have hn0 := hws.1
                  have hn1 := hws.2.1
                  have HB4 := hideIt (HB3.out.trans hws.bal)
                  clear hws HB3 g1 HCC
                  go_wp2_with fail
                  refine (IH.out n (by omega) hn1 wr (HC.out.below hb)).mono ?_
                  rintro e2 w1 ⟨⟨r, rfl, hr⟩, hb1⟩
                  replace hb := hb.trans (hb1.mono hb.size)
                  clear hb1
                  rcases hr with rfl | ⟨e, rfl, hv⟩
                  · go_wp2_with fail
                    go_ret
                    exact ⟨⟨-1, rfl, Ans.no _ _⟩, hb⟩
                  · have hke := hv.1
                    have hel := hv.2.1
                    have HB5 := hideIt (HB4.out.trans hv.bal)
                    clear hv HB4
                    go_wp2_with fail
                    refine (jws32 g e zs w1 hl hel (HC.out.below hb)).mono ?_
                    rintro e2 w' ⟨⟨q, rfl, hws⟩, rfl⟩
                    have hq0 := hws.1
                    have hq1 := hws.2.1
                    have HB6 := hideIt (HB5.out.trans hws.bal)
                    clear hws HB5
                    by_cases hql : q < zs.length
                    · obtain ⟨c, g1, HCC⟩ := (HC.out.below hb).at hql
                      cases h93 : (c == 125)
                      · cases h44 : (c == 44)
                        · have n44 : (c != 44) = true := by simpa using h44
                          go_wp2_with fail
                          go_ret
                          exact ⟨⟨-1, rfl, Ans.no _ _⟩, hb⟩
                        · obtain rfl : c = 44 := by simpa using h44
                          have HB7 := hideIt (HB6.out.trans (Bal.one hql (HCC.out ▸ (by unfold isOth; omega : isOth 44))))
                          clear HB6
                          go_wp2_with fail
                          refine (jws32 g (q + 1) zs w1 hl (by omega) (HC.out.below hb)).mono ?_
                          rintro e2 w' ⟨⟨n2, rfl, hws⟩, rfl⟩
                          have hp0 := hws.1
                          have hp1 := hws.2.1
                          have HB8 := hideIt (HB7.out.trans hws.bal)
                          clear hws HB7
                          go_wp2_with fail
                          exact box_rel HB8.out hp1 (by omega) hb rfl (by omega)
                      · obtain rfl : c = 125 := by simpa using h93
                        go_wp2_with fail
                        go_ret
                        exact ⟨⟨_, rfl, Ans.box (by omega) hql (.inr H91.out) HB6.out (.inr HCC.out.symm)⟩, hb⟩
                    · go_wp2_with fail
                      go_ret
                      exact ⟨⟨-1, rfl, Ans.no _ _⟩, hb⟩
              · go_wp2_with fail
                go_ret
                exact ⟨⟨-1, rfl, Ans.no _ _⟩, hb⟩
        · go_wp2_with fail
          go_ret
          exact ⟨⟨-1, rfl, Ans.no _ _⟩, hb⟩
    · obtain ⟨hlt, h93⟩ := HB.out rfl
      have H93 := hideIt h93
      clear h93
      go_wp2_with fail
      go_ret
      exact ⟨⟨_, rfl, Ans.box (by omega) hlt (.inr H91.out) HB0.out (.inr H93.out)⟩, Below.refl _ _⟩

theorem isLit_low {c : Int} (h : 97 ≤ c ∧ c ≤ 122) : isLit c := by
  refine ⟨?_, by omega, by omega, by omega⟩
  simp [endsLit, isSep, isWs]; omega
theorem lit_true : LitStr { data := #[116, 114, 117, 101] } := by
  refine ⟨by decide, by decide, fun k hk => ?_⟩
  have : k = 0 ∨ k = 1 ∨ k = 2 ∨ k = 3 := by have : k < 4 := hk; omega
  rcases this with rfl | rfl | rfl | rfl
  · exact isLit_low (c := 116) (by omega)
  · exact isLit_low (c := 114) (by omega)
  · exact isLit_low (c := 117) (by omega)
  · exact isLit_low (c := 101) (by omega)
theorem lit_false : LitStr { data := #[102, 97, 108, 115, 101] } := by
  refine ⟨by decide, by decide, fun k hk => ?_⟩
  have : k = 0 ∨ k = 1 ∨ k = 2 ∨ k = 3 ∨ k = 4 := by have : k < 5 := hk; omega
  rcases this with rfl | rfl | rfl | rfl | rfl
  · exact isLit_low (c := 102) (by omega)
  · exact isLit_low (c := 97) (by omega)
  · exact isLit_low (c := 108) (by omega)
  · exact isLit_low (c := 115) (by omega)
  · exact isLit_low (c := 101) (by omega)
theorem lit_null : LitStr { data := #[110, 117, 108, 108] } := by
  refine ⟨by decide, by decide, fun k hk => ?_⟩
  have : k = 0 ∨ k = 1 ∨ k = 2 ∨ k = 3 := by have : k < 4 := hk; omega
  rcases this with rfl | rfl | rfl | rfl
  · exact isLit_low (c := 110) (by omega)
  · exact isLit_low (c := 117) (by omega)
  · exact isLit_low (c := 108) (by omega)
  · exact isLit_low (c := 108) (by omega)

theorem SAns.ans {zs : List Int} {i : Nat} {r : Int} (h : SAns zs i r) (h34 : zs.getD i 0 = 34) : Ans zs i r := by
  rcases h with rfl | ⟨e, rfl, hp⟩
  · exact Ans.no _ _
  · have := hp.lt
    exact .inr ⟨e, rfl, by omega, this.2, .inl ⟨h34, hp⟩⟩

set_option maxRecDepth 100000 in
set_option maxHeartbeats 4000000 in
theorem jvalue_step (g i : Nat) (zs : List Int) (hl : zs.length ≤ 65536) (hi : i ≤ zs.length)
    (ih : ∀ j, i < j → j ≤ zs.length → JV g zs j) : JV g zs i := by
  intro w hc
  have HC := hideIt hc
  have IH := hideIt ih
  clear hc ih
  by_cases hlt : i < zs.length
  · obtain ⟨c, g1, HCC⟩ := HC.out.at hlt
    cases h34 : (c == 34)
    · cases h91 : (c == 91)
      · cases h123 : (c == 123)
        · cases h116 : (c == 116)
          · cases h102 : (c == 102)
            · cases h110 : (c == 110)
              · cases h45 : (c == 45)
                · cases hd : isDig c
                  · have HD := hideIt hd
                    clear hd
                    go_enter Try.func20, Try.ntmps20
                    go_wp2_with (go_at_call 27; refine (dig_f _ HD.out).mono ?_; rintro e w' ⟨rfl, rfl⟩)
                    go_ret
                    exact ⟨⟨-1, rfl, Ans.no _ _⟩, Below.refl _ _⟩
                  · have HD := hideIt hd
                    clear hd
                    go_enter Try.func20, Try.ntmps20
                    go_wp2_with (go_at_call 27; refine (dig_t _ HD.out).mono ?_; rintro e w' ⟨rfl, rfl⟩)
                    refine (jnumber28 g i zs w hl hlt HC.out).mono ?_
                    rintro e w' ⟨⟨r, rfl, hr⟩, rfl⟩
                    have HR := hideIt hr
                    clear hr
                    go_wp2_with fail
                    go_ret
                    exact ⟨⟨r, rfl, HR.out⟩, Below.refl _ _⟩
                · obtain rfl : c = 45 := by simpa using h45
                  clear h34 h91 h123 h116 h102 h110
                  go_enter Try.func20, Try.ntmps20
                  go_wp2_with fail
                  refine (jnumber28 g i zs w hl hlt HC.out).mono ?_
                  rintro e w' ⟨⟨r, rfl, hr⟩, rfl⟩
                  have HR := hideIt hr
                  clear hr
                  go_wp2_with fail
                  go_ret
                  exact ⟨⟨r, rfl, HR.out⟩, Below.refl _ _⟩
              · obtain rfl : c = 110 := by simpa using h110
                clear h34 h91 h123 h116 h102
                go_enter Try.func20, Try.ntmps20
                go_wp2_with fail
                refine (jword26 g i _ zs w hl hlt HC.out lit_null).mono ?_
                rintro e w' ⟨⟨r, rfl, hr⟩, hb⟩
                have HR := hideIt hr
                clear hr
                go_wp2_with fail
                go_ret
                exact ⟨⟨r, rfl, HR.out⟩, hb⟩
            · obtain rfl : c = 102 := by simpa using h102
              clear h34 h91 h123 h116
              go_enter Try.func20, Try.ntmps20
              go_wp2_with fail
              refine (jword26 g i _ zs w hl hlt HC.out lit_false).mono ?_
              rintro e w' ⟨⟨r, rfl, hr⟩, hb⟩
              have HR := hideIt hr
              clear hr
              go_wp2_with fail
              go_ret
              exact ⟨⟨r, rfl, HR.out⟩, hb⟩
          · obtain rfl : c = 116 := by simpa using h116
            clear h34 h91 h123
            go_enter Try.func20, Try.ntmps20
            go_wp2_with fail
            refine (jword26 g i _ zs w hl hlt HC.out lit_true).mono ?_
            rintro e w' ⟨⟨r, rfl, hr⟩, hb⟩
            have HR := hideIt hr
            clear hr
            go_wp2_with fail
            go_ret
            exact ⟨⟨r, rfl, HR.out⟩, hb⟩
        · obtain rfl : c = 123 := by simpa using h123
          clear h34 h91
          go_enter Try.func20, Try.ntmps20
          go_wp2_with fail
          refine (jobject25 g i zs w hl hlt HC.out HCC.out.symm IH.out).mono ?_
          rintro e w' ⟨⟨r, rfl, hr⟩, hb⟩
          have HR := hideIt hr
          clear hr
          go_wp2_with fail
          go_ret
          exact ⟨⟨r, rfl, HR.out⟩, hb⟩
      · obtain rfl : c = 91 := by simpa using h91
        clear h34
        go_enter Try.func20, Try.ntmps20
        go_wp2_with fail
        refine (jarray24 g i zs w hl hlt HC.out HCC.out.symm IH.out).mono ?_
        rintro e w' ⟨⟨r, rfl, hr⟩, hb⟩
        have HR := hideIt hr
        clear hr
        go_wp2_with fail
        go_ret
        exact ⟨⟨r, rfl, HR.out⟩, hb⟩
    · obtain rfl : c = 34 := by simpa using h34
      go_enter Try.func20, Try.ntmps20
      go_wp2_with fail
      refine (jstring23 g i zs w hl hlt HC.out).mono ?_
      rintro e w' ⟨⟨r, rfl, hr⟩, rfl⟩
      have HR := hideIt (hr.ans HCC.out.symm)
      clear hr
      go_wp2_with fail
      go_ret
      exact ⟨⟨r, rfl, HR.out⟩, Below.refl _ _⟩
  · go_enter Try.func20, Try.ntmps20
    go_wp2_with fail
    go_ret
    exact ⟨⟨-1, rfl, Ans.no _ _⟩, Below.refl _ _⟩

theorem jvalue_any (g : Nat) (zs : List Int) (hl : zs.length ≤ 65536) : ∀ n i, zs.length - i ≤ n → i ≤ zs.length → JV g zs i := by
  intro n
  induction n with
  | zero => exact fun i h hi => jvalue_step g i zs hl hi (fun j a b => by omega)
  | succ n ih => exact fun i h hi => jvalue_step g i zs hl hi (fun j a b => ih j (by omega) b)

end Go.Proofs.Qxb6604001a
