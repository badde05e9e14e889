/- zzUnquote reads back what writeQuoted writes. -/
import Derived.Test.Qxb6603961aWrite
import Derived.Lib.BufferRead
namespace Go.Proofs.Qxb6603961a
open Go.RowKit
set_option linter.unusedVariables false

set_option maxRecDepth 100000 in
set_option maxHeartbeats 400000 in
theorem hexVal_any (x : Nat) (w : World) (h : (48 ≤ x ∧ x ≤ 57) ∨ (97 ≤ x ∧ x ≤ 102)) :
    Calls Try.prog 14 #[.int .u8 (x : Int)] w fun e w' => e = .returned (.tuple #[.int .u8 (hexVal x : Nat), .bool true]) ∧ w' = w := by
  rcases h with ⟨h1, h2⟩ | ⟨h1, h2⟩
  · have hv : ((hexVal x : Nat) : Int) = (x : Int) - 48 := by unfold hexVal; rw [if_pos h2]; omega
    have HV := hideIt hv
    clear hv
    go_enter Try.func14, Try.ntmps14
    go_wp2
    go_ret2
    rw [HV.out]
    exact ⟨rfl, rfl⟩
  · have hv : ((hexVal x : Nat) : Int) = (x : Int) - 97 + 10 := by unfold hexVal; rw [if_neg (by omega)]; omega
    have HV := hideIt hv
    clear hv
    go_enter Try.func14, Try.ntmps14
    go_wp2
    go_ret2
    rw [HV.out]
    exact ⟨rfl, rfl⟩

theorem byte_at {q : ByteArray} {p : Nat} {x : UInt8} {r : List UInt8} (h : q.data.toList.drop p = x :: r) : ∃ hp : p < q.size, q[p] = x ∧ q.data.toList.drop (p + 1) = r ∧ q.size = p + 1 + r.length := by
  have hl : p < q.data.toList.length := by
    rcases Nat.lt_or_ge p q.data.toList.length with h' | h'
    · exact h'
    · rw [List.drop_of_length_le h'] at h; cases h
  have hp : p < q.size := by rw [← size_list]; exact hl
  have e := list_at q p hp
  rw [h] at e
  simp only [List.cons.injEq] at e
  have hlen := congrArg List.length h
  rw [List.length_drop, size_list, List.length_cons] at hlen
  exact ⟨hp, e.1.symm, e.2.symm, by omega⟩

theorem conv_own {base : Nat} {v : Value} {l : List UInt8} {w : World} (h : w.ownsRow base 5 1 v l.length (Lib.byteCells l)) : (convert 30 9 v).run Try.prog w = .ok (.string ⟨l.toArray⟩) w := by
  rcases h.2 with ⟨rfl, h0⟩ | ⟨g, cap, cur, rfl, hbg, hg, hnc, hcm, hcs, htake⟩
  · have : l = [] := List.eq_nil_of_length_eq_zero h0
    subst this
    exact Lib.run_convert_nil_bytes w 30 9 5 0 Try.underlying30 Try.underlying5 Try.underlying9
  · rw [Nat.mul_one] at htake
    exact run_convert_bytes_back w 30 9 5 ⟨g, 0, none⟩ cap l Try.underlying30 Try.underlying5 Try.underlying9 (Lib.bytes_of_row hg htake)

theorem cells_next (l : List UInt8) (k : Nat) (h : k < l.length) : Lib.byteCells (l.take (k + 1)) = Lib.byteCells (l.take k) ++ [.int .u8 (l[k].toNat : Int)] := by
  rw [List.take_succ_eq_append_getElem h, byteCells_append]; rfl

set_option maxRecDepth 100000 in
set_option maxHeartbeats 8000000 in
theorem unquote_any (q : ByteArray) (l : List UInt8) (w : World) (hl : l.length ≤ 524288) (hq : q.data.toList = 34 :: (encs l ++ [34])) :
    Calls Try.prog 7 #[.string q] w fun e w' => e = .returned (.tuple #[.string ⟨l.toArray⟩, .bool true]) ∧ Below w.heap.size w w' := by
  obtain ⟨i0, hi, hz0, hz1, hz2⟩ := info_parts Try.info5
  have hsz : q.size = (encs l).length + 2 := by rw [← size_list, hq]; simp
  have henc := encs_length l
  have hs1 : 2 ≤ q.size := by omega
  have hs2 : q.size ≤ 4000000 := by omega
  have hq0 : q.data.toList.drop 0 = 34 :: (encs l ++ [34]) := hq
  obtain ⟨hp0, hc0, hd1, -⟩ := byte_at hq0
  have hlast : q.data.toList.drop (q.size - 1) = [34] := by
    rw [hq, show q.size - 1 = (34 :: encs l).length by rw [List.length_cons]; omega, ← List.cons_append, List.drop_left]
  obtain ⟨hpl, hcl, -, -⟩ := byte_at hlast
  have a0 : ((q[0].toNat : Int) != 34) = false := by rw [hc0]; rfl
  have a1 : ((q[q.size - 1].toNat : Int) != 34) = false := by rw [hcl]; rfl
  have H1 : Hid (q.data.toList.drop 1 = encs (l.drop 0) ++ [34]) := hd1
  clear hq hq0 hc0 hd1 hlast hcl hsz henc
  go_enter Try.func7, Try.ntmps7
  go_wp2
  go_loopw [4, 6] (fun v i wr => ∃ k p : Nat, k ≤ l.length ∧ 1 ≤ p ∧ p < q.size ∧ i = .int .i64 p ∧ q.data.toList.drop p = encs (l.drop k) ++ [34] ∧ wr.ownsRow w.heap.size 5 1 v k (Lib.byteCells (l.take k)) ∧ Below w.heap.size w wr) (fun _ i _ => q.size - (intOf i).toNat)
  case atStart => exact ⟨0, 1, Nat.zero_le _, Nat.le_refl _, by omega, rfl, H1.out, World.ownsRow_nil _ _ _ _, Below.refl _ _⟩
  case round =>
    clear H1
    obtain ⟨k, p, hk, hp1, hpq, rfl, hd, hown, hbel⟩ := hrel
    have HD := hideIt hd
    clear hd a0 a1
    by_cases hlt : k < l.length
    · obtain ⟨c, hc⟩ : ∃ c, c = l[k] := ⟨_, rfl⟩
      have HN : Hid (Lib.byteCells (l.take (k + 1)) = Lib.byteCells (l.take k) ++ [.int .u8 (c.toNat : Int)]) := by rw [hc]; exact cells_next l k hlt
      have HD2 : Hid (q.data.toList.drop p = enc c ++ (encs (l.drop (k + 1)) ++ [34])) := by
        show _ = _
        rw [HD.out, List.drop_eq_getElem_cons hlt, encs_cons, ← hc, List.append_assoc]
      clear hc HD
      by_cases hpl : isPlain c = true
      · obtain ⟨o1, e34, e92⟩ := (plain_iff c).1 hpl
        have hD := HD2.out
        rw [enc_plain hpl, List.singleton_append] at hD
        obtain ⟨hp, h0, hr, hsz⟩ := byte_at hD
        have HR := hideIt hr
        have g1 : 32 ≤ (q[p].toNat : Int) := by rw [h0]; exact o1
        have g2 : ((q[p].toNat : Int) == 34) = false := by rw [h0]; exact e34
        have g3 : ((q[p].toNat : Int) != 92) = true := by rw [h0, bne, e92]; rfl
        have hend : (p : Int) < (q.size : Int) - 1 := by rw [hsz]; simp only [List.length_append, List.length_cons, List.length_nil]; omega
        have hpe : p + 1 < q.size := by omega
        have HX : Hid (q[p] = c) := h0
        clear hD h0 hr hsz HD2 hpl o1 e34 e92
        go_wp2_with (first | (go_at_call 14; refine (hexVal_any _ _ (by first | exact R4.out | exact R5.out)).mono ?_; rintro e w' ⟨rfl, hw⟩; replace hw := hw.symm; subst hw) | (at_builtin; refine wpList_append_own _ rfl _ _ 30 rfl w.heap.size 5 i0 (.int .u8 0) 1 1 Try.underlying30 hi hz0 hz1 hz2 rfl (by decide) _ _ _ rfl (hown.alloc _) ⟨wr.heap.size, 0, none⟩ 1 1 [.int .u8 (q[p].toNat : Int)] rfl rfl ?c1 ?c2 ?c3 ?c4 ?c5 ?_))
        case c1 => exact cell_new1 _ _ rfl _ _
        case c2 => intro u hu; simp at hu; subst hu; rfl
        case c3 => unfold maxLen; omega
        case c4 => omega
        case c5 => have := hbel.size; simp; omega
        intro v' w2 ho hg hnil
        have ho' : w2.ownsRow w.heap.size 5 1 v' (k + 1) (Lib.byteCells (l.take (k + 1))) := by rw [HN.out]; rw [← HX.out]; exact ho
        have hb' : Below w.heap.size w w2 := (hbel.alloc hbel.size _).grown hg (by have := hbel.size; simp; omega) (fun g hgg => (hown.lt g hgg).1)
        have HO := hideIt ho'
        have HB := hideIt hb'
        clear ho ho' hb' hg hnil hown hbel HN
        go_wp2
        go_roundw
        case rel => exact ⟨k + 1, p + 1, by omega, by omega, by omega, by go_num, HR.out, HO.out, HB.out⟩
        case measure => simp [intOf]; omega
      · have hnp := hpl
        clear hpl
        by_cases hc : c = 34
        · subst hc
          have hD := HD2.out
          rw [enc_pair (.inl rfl), List.cons_append, List.cons_append, List.nil_append] at hD
          obtain ⟨hp, h0, hr0, hsz0⟩ := byte_at hD
          obtain ⟨hp', h1, hr, hsz⟩ := byte_at hr0
          have HR : Hid (q.data.toList.drop (p + 2) = encs (l.drop (k + 1)) ++ [34]) := hr
          have g1 : 32 ≤ (q[p].toNat : Int) := by rw [h0]; decide
          have g2 : ((q[p].toNat : Int) == 34) = false := by rw [h0]; rfl
          have g3 : ((q[p].toNat : Int) != 92) = false := by rw [h0]; rfl
          have e34 : ((q[p + 1].toNat : Int) == 34) = true := by rw [h1]; rfl
          have hend : (p : Int) < (q.size : Int) - 1 := by rw [hsz]; simp only [List.length_append, List.length_cons, List.length_nil]; omega
          have hend2 : (p : Int) + 1 < (q.size : Int) - 1 := by rw [hsz]; simp only [List.length_append, List.length_cons, List.length_nil]; omega
          have hpe : p + 2 < q.size := by rw [hsz]; simp only [List.length_append, List.length_cons, List.length_nil]; omega
          have HX := hideIt h1
          clear hD h0 h1 hr hr0 hsz hsz0 HD2 hnp
          go_wp2_with (first | (go_at_call 14; refine (hexVal_any _ _ (by first | exact R4.out | exact R5.out)).mono ?_; rintro e w' ⟨rfl, hw⟩; replace hw := hw.symm; subst hw) | (at_builtin; refine wpList_append_own _ rfl _ _ 30 rfl w.heap.size 5 i0 (.int .u8 0) 1 1 Try.underlying30 hi hz0 hz1 hz2 rfl (by decide) _ _ _ rfl (hown.alloc _) ⟨wr.heap.size, 0, none⟩ 1 1 [.int .u8 (q[p + 1].toNat : Int)] rfl rfl ?c1 ?c2 ?c3 ?c4 ?c5 ?_))
          case c1 => exact cell_new1 _ _ rfl _ _
          case c2 => intro u hu; simp at hu; subst hu; rfl
          case c3 => unfold maxLen; omega
          case c4 => omega
          case c5 => have := hbel.size; simp; omega
          intro v' w2 ho hg hnil
          have ho' : w2.ownsRow w.heap.size 5 1 v' (k + 1) (Lib.byteCells (l.take (k + 1))) := by rw [HN.out]; rw [HX.out] at ho; exact ho
          have hb' : Below w.heap.size w w2 := (hbel.alloc hbel.size _).grown hg (by have := hbel.size; simp; omega) (fun g hgg => (hown.lt g hgg).1)
          have HO := hideIt ho'
          have HB := hideIt hb'
          clear ho ho' hb' hg hnil hown hbel HN
          go_wp2
          go_roundw
          case rel => exact ⟨k + 1, p + 2, by omega, by omega, by omega, by go_num, HR.out, HO.out, HB.out⟩
          case measure => simp [intOf]; omega
        · have N34 := hideIt hc
          clear hc
          by_cases hc : c = 92
          · subst hc
            have hD := HD2.out
            rw [enc_pair (.inr rfl), List.cons_append, List.cons_append, List.nil_append] at hD
            obtain ⟨hp, h0, hr0, hsz0⟩ := byte_at hD
            obtain ⟨hp', h1, hr, hsz⟩ := byte_at hr0
            have HR : Hid (q.data.toList.drop (p + 2) = encs (l.drop (k + 1)) ++ [34]) := hr
            have g1 : 32 ≤ (q[p].toNat : Int) := by rw [h0]; decide
            have g2 : ((q[p].toNat : Int) == 34) = false := by rw [h0]; rfl
            have g3 : ((q[p].toNat : Int) != 92) = false := by rw [h0]; rfl
            have e34 : ((q[p + 1].toNat : Int) == 34) = false := by rw [h1]; rfl
            have e92 : ((q[p + 1].toNat : Int) == 92) = true := by rw [h1]; rfl
            have hend : (p : Int) < (q.size : Int) - 1 := by rw [hsz]; simp only [List.length_append, List.length_cons, List.length_nil]; omega
            have hend2 : (p : Int) + 1 < (q.size : Int) - 1 := by rw [hsz]; simp only [List.length_append, List.length_cons, List.length_nil]; omega
            have hpe : p + 2 < q.size := by rw [hsz]; simp only [List.length_append, List.length_cons, List.length_nil]; omega
            have HX := hideIt h1
            clear hD h0 h1 hr hr0 hsz hsz0 HD2 hnp
            go_wp2_with (first | (go_at_call 14; refine (hexVal_any _ _ (by first | exact R4.out | exact R5.out)).mono ?_; rintro e w' ⟨rfl, hw⟩; replace hw := hw.symm; subst hw) | (at_builtin; refine wpList_append_own _ rfl _ _ 30 rfl w.heap.size 5 i0 (.int .u8 0) 1 1 Try.underlying30 hi hz0 hz1 hz2 rfl (by decide) _ _ _ rfl (hown.alloc _) ⟨wr.heap.size, 0, none⟩ 1 1 [.int .u8 (q[p + 1].toNat : Int)] rfl rfl ?c1 ?c2 ?c3 ?c4 ?c5 ?_))
            case c1 => exact cell_new1 _ _ rfl _ _
            case c2 => intro u hu; simp at hu; subst hu; rfl
            case c3 => unfold maxLen; omega
            case c4 => omega
            case c5 => have := hbel.size; simp; omega
            intro v' w2 ho hg hnil
            have ho' : w2.ownsRow w.heap.size 5 1 v' (k + 1) (Lib.byteCells (l.take (k + 1))) := by rw [HN.out]; rw [HX.out] at ho; exact ho
            have hb' : Below w.heap.size w w2 := (hbel.alloc hbel.size _).grown hg (by have := hbel.size; simp; omega) (fun g hgg => (hown.lt g hgg).1)
            have HO := hideIt ho'
            have HB := hideIt hb'
            clear ho ho' hb' hg hnil hown hbel HN
            go_wp2
            go_roundw
            case rel => exact ⟨k + 1, p + 2, by omega, by omega, by omega, by go_num, HR.out, HO.out, HB.out⟩
            case measure => simp [intOf]; omega
          · have N92 := hideIt hc
            clear hc
            by_cases hc : c = 10
            · subst hc
              have hD := HD2.out
              rw [enc_n, List.cons_append, List.cons_append, List.nil_append] at hD
              obtain ⟨hp, h0, hr0, hsz0⟩ := byte_at hD
              obtain ⟨hp', h1, hr, hsz⟩ := byte_at hr0
              have HR : Hid (q.data.toList.drop (p + 2) = encs (l.drop (k + 1)) ++ [34]) := hr
              have g1 : 32 ≤ (q[p].toNat : Int) := by rw [h0]; decide
              have g2 : ((q[p].toNat : Int) == 34) = false := by rw [h0]; rfl
              have g3 : ((q[p].toNat : Int) != 92) = false := by rw [h0]; rfl
              have e34 : ((q[p + 1].toNat : Int) == 34) = false := by rw [h1]; rfl
              have e92 : ((q[p + 1].toNat : Int) == 92) = false := by rw [h1]; rfl
              have e110 : ((q[p + 1].toNat : Int) == 110) = true := by rw [h1]; rfl
              have hend : (p : Int) < (q.size : Int) - 1 := by rw [hsz]; simp only [List.length_append, List.length_cons, List.length_nil]; omega
              have hend2 : (p : Int) + 1 < (q.size : Int) - 1 := by rw [hsz]; simp only [List.length_append, List.length_cons, List.length_nil]; omega
              have hpe : p + 2 < q.size := by rw [hsz]; simp only [List.length_append, List.length_cons, List.length_nil]; omega
              have HX := hideIt h1
              clear hD h0 h1 hr hr0 hsz hsz0 HD2 hnp
              go_wp2_with (first | (go_at_call 14; refine (hexVal_any _ _ (by first | exact R4.out | exact R5.out)).mono ?_; rintro e w' ⟨rfl, hw⟩; replace hw := hw.symm; subst hw) | (at_builtin; refine wpList_append_own _ rfl _ _ 30 rfl w.heap.size 5 i0 (.int .u8 0) 1 1 Try.underlying30 hi hz0 hz1 hz2 rfl (by decide) _ _ _ rfl (hown.alloc _) ⟨wr.heap.size, 0, none⟩ 1 1 [.int .u8 10] rfl rfl ?c1 ?c2 ?c3 ?c4 ?c5 ?_))
              case c1 => exact cell_new1 _ _ rfl _ _
              case c2 => intro u hu; simp at hu; subst hu; rfl
              case c3 => unfold maxLen; omega
              case c4 => omega
              case c5 => have := hbel.size; simp; omega
              intro v' w2 ho hg hnil
              have ho' : w2.ownsRow w.heap.size 5 1 v' (k + 1) (Lib.byteCells (l.take (k + 1))) := by rw [HN.out]; exact ho
              have hb' : Below w.heap.size w w2 := (hbel.alloc hbel.size _).grown hg (by have := hbel.size; simp; omega) (fun g hgg => (hown.lt g hgg).1)
              have HO := hideIt ho'
              have HB := hideIt hb'
              clear ho ho' hb' hg hnil hown hbel HN
              go_wp2
              go_roundw
              case rel => exact ⟨k + 1, p + 2, by omega, by omega, by omega, by go_num, HR.out, HO.out, HB.out⟩
              case measure => simp [intOf]; omega
            · have N10 := hideIt hc
              clear hc
              by_cases hc : c = 13
              · subst hc
                have hD := HD2.out
                rw [enc_r, List.cons_append, List.cons_append, List.nil_append] at hD
                obtain ⟨hp, h0, hr0, hsz0⟩ := byte_at hD
                obtain ⟨hp', h1, hr, hsz⟩ := byte_at hr0
                have HR : Hid (q.data.toList.drop (p + 2) = encs (l.drop (k + 1)) ++ [34]) := hr
                have g1 : 32 ≤ (q[p].toNat : Int) := by rw [h0]; decide
                have g2 : ((q[p].toNat : Int) == 34) = false := by rw [h0]; rfl
                have g3 : ((q[p].toNat : Int) != 92) = false := by rw [h0]; rfl
                have e34 : ((q[p + 1].toNat : Int) == 34) = false := by rw [h1]; rfl
                have e92 : ((q[p + 1].toNat : Int) == 92) = false := by rw [h1]; rfl
                have e110 : ((q[p + 1].toNat : Int) == 110) = false := by rw [h1]; rfl
                have e114 : ((q[p + 1].toNat : Int) == 114) = true := by rw [h1]; rfl
                have hend : (p : Int) < (q.size : Int) - 1 := by rw [hsz]; simp only [List.length_append, List.length_cons, List.length_nil]; omega
                have hend2 : (p : Int) + 1 < (q.size : Int) - 1 := by rw [hsz]; simp only [List.length_append, List.length_cons, List.length_nil]; omega
                have hpe : p + 2 < q.size := by rw [hsz]; simp only [List.length_append, List.length_cons, List.length_nil]; omega
                have HX := hideIt h1
                clear hD h0 h1 hr hr0 hsz hsz0 HD2 hnp
                go_wp2_with (first | (go_at_call 14; refine (hexVal_any _ _ (by first | exact R4.out | exact R5.out)).mono ?_; rintro e w' ⟨rfl, hw⟩; replace hw := hw.symm; subst hw) | (at_builtin; refine wpList_append_own _ rfl _ _ 30 rfl w.heap.size 5 i0 (.int .u8 0) 1 1 Try.underlying30 hi hz0 hz1 hz2 rfl (by decide) _ _ _ rfl (hown.alloc _) ⟨wr.heap.size, 0, none⟩ 1 1 [.int .u8 13] rfl rfl ?c1 ?c2 ?c3 ?c4 ?c5 ?_))
                case c1 => exact cell_new1 _ _ rfl _ _
                case c2 => intro u hu; simp at hu; subst hu; rfl
                case c3 => unfold maxLen; omega
                case c4 => omega
                case c5 => have := hbel.size; simp; omega
                intro v' w2 ho hg hnil
                have ho' : w2.ownsRow w.heap.size 5 1 v' (k + 1) (Lib.byteCells (l.take (k + 1))) := by rw [HN.out]; exact ho
                have hb' : Below w.heap.size w w2 := (hbel.alloc hbel.size _).grown hg (by have := hbel.size; simp; omega) (fun g hgg => (hown.lt g hgg).1)
                have HO := hideIt ho'
                have HB := hideIt hb'
                clear ho ho' hb' hg hnil hown hbel HN
                go_wp2
                go_roundw
                case rel => exact ⟨k + 1, p + 2, by omega, by omega, by omega, by go_num, HR.out, HO.out, HB.out⟩
                case measure => simp [intOf]; omega
              · have N13 := hideIt hc
                clear hc
                by_cases hc : c = 9
                · subst hc
                  have hD := HD2.out
                  rw [enc_t, List.cons_append, List.cons_append, List.nil_append] at hD
                  obtain ⟨hp, h0, hr0, hsz0⟩ := byte_at hD
                  obtain ⟨hp', h1, hr, hsz⟩ := byte_at hr0
                  have HR : Hid (q.data.toList.drop (p + 2) = encs (l.drop (k + 1)) ++ [34]) := hr
                  have g1 : 32 ≤ (q[p].toNat : Int) := by rw [h0]; decide
                  have g2 : ((q[p].toNat : Int) == 34) = false := by rw [h0]; rfl
                  have g3 : ((q[p].toNat : Int) != 92) = false := by rw [h0]; rfl
                  have e34 : ((q[p + 1].toNat : Int) == 34) = false := by rw [h1]; rfl
                  have e92 : ((q[p + 1].toNat : Int) == 92) = false := by rw [h1]; rfl
                  have e110 : ((q[p + 1].toNat : Int) == 110) = false := by rw [h1]; rfl
                  have e114 : ((q[p + 1].toNat : Int) == 114) = false := by rw [h1]; rfl
                  have e116 : ((q[p + 1].toNat : Int) == 116) = true := by rw [h1]; rfl
                  have hend : (p : Int) < (q.size : Int) - 1 := by rw [hsz]; simp only [List.length_append, List.length_cons, List.length_nil]; omega
                  have hend2 : (p : Int) + 1 < (q.size : Int) - 1 := by rw [hsz]; simp only [List.length_append, List.length_cons, List.length_nil]; omega
                  have hpe : p + 2 < q.size := by rw [hsz]; simp only [List.length_append, List.length_cons, List.length_nil]; omega
                  have HX := hideIt h1
                  clear hD h0 h1 hr hr0 hsz hsz0 HD2 hnp
                  go_wp2_with (first | (go_at_call 14; refine (hexVal_any _ _ (by first | exact R4.out | exact R5.out)).mono ?_; rintro e w' ⟨rfl, hw⟩; replace hw := hw.symm; subst hw) | (at_builtin; refine wpList_append_own _ rfl _ _ 30 rfl w.heap.size 5 i0 (.int .u8 0) 1 1 Try.underlying30 hi hz0 hz1 hz2 rfl (by decide) _ _ _ rfl (hown.alloc _) ⟨wr.heap.size, 0, none⟩ 1 1 [.int .u8 9] rfl rfl ?c1 ?c2 ?c3 ?c4 ?c5 ?_))
                  case c1 => exact cell_new1 _ _ rfl _ _
                  case c2 => intro u hu; simp at hu; subst hu; rfl
                  case c3 => unfold maxLen; omega
                  case c4 => omega
                  case c5 => have := hbel.size; simp; omega
                  intro v' w2 ho hg hnil
                  have ho' : w2.ownsRow w.heap.size 5 1 v' (k + 1) (Lib.byteCells (l.take (k + 1))) := by rw [HN.out]; exact ho
                  have hb' : Below w.heap.size w w2 := (hbel.alloc hbel.size _).grown hg (by have := hbel.size; simp; omega) (fun g hgg => (hown.lt g hgg).1)
                  have HO := hideIt ho'
                  have HB := hideIt hb'
                  clear ho ho' hb' hg hnil hown hbel HN
                  go_wp2
                  go_roundw
                  case rel => exact ⟨k + 1, p + 2, by omega, by omega, by omega, by go_num, HR.out, HO.out, HB.out⟩
                  case measure => simp [intOf]; omega
                · have N9 := hideIt hc
                  clear hc
                  have hlo : c.toNat < 32 := by
                    refine Classical.byContradiction fun hge => hnp ((plain_iff c).2 ⟨by omega, ?_, ?_⟩)
                    · exact beqF' fun h => N34.out (eq_of_toNat (n := 34) (by omega) (by omega))
                    · exact beqF' fun h => N92.out (eq_of_toNat (n := 92) (by omega) (by omega))
                  have hD := HD2.out
                  rw [enc_u hlo N10.out N13.out N9.out, List.cons_append, List.cons_append, List.cons_append, List.cons_append, List.cons_append, List.cons_append, List.nil_append] at hD
                  obtain ⟨hp, h0, hr0, -⟩ := byte_at hD
                  obtain ⟨hp', h1, hr1, -⟩ := byte_at hr0
                  obtain ⟨hp2, h2, hr2, -⟩ := byte_at hr1
                  obtain ⟨hp3, h3, hr3, -⟩ := byte_at hr2
                  obtain ⟨hp4, h4, hr4, -⟩ := byte_at hr3
                  obtain ⟨hp5, h5, hr, hsz⟩ := byte_at hr4
                  have HR : Hid (q.data.toList.drop (p + 6) = encs (l.drop (k + 1)) ++ [34]) := hr
                  have g1 : 32 ≤ (q[p].toNat : Int) := by rw [h0]; decide
                  have g2 : ((q[p].toNat : Int) == 34) = false := by rw [h0]; rfl
                  have g3 : ((q[p].toNat : Int) != 92) = false := by rw [h0]; rfl
                  have e34 : ((q[p + 1].toNat : Int) == 34) = false := by rw [h1]; rfl
                  have e92 : ((q[p + 1].toNat : Int) == 92) = false := by rw [h1]; rfl
                  have e110 : ((q[p + 1].toNat : Int) == 110) = false := by rw [h1]; rfl
                  have e114 : ((q[p + 1].toNat : Int) == 114) = false := by rw [h1]; rfl
                  have e116 : ((q[p + 1].toNat : Int) == 116) = false := by rw [h1]; rfl
                  have e117 : ((q[p + 1].toNat : Int) == 117) = true := by rw [h1]; rfl
                  have z2 : ((q[p + 2].toNat : Int) != 48) = false := by rw [show q[p + 2] = 48 from h2]; rfl
                  have z3 : ((q[p + 3].toNat : Int) != 48) = false := by rw [show q[p + 3] = 48 from h3]; rfl
                  obtain ⟨v4, r4⟩ := hexAt_val (c.toNat / 16) (by omega)
                  obtain ⟨v5, r5⟩ := hexAt_val (c.toNat % 16) (by omega)
                  have h4' : q[p + 4] = hexAt (c.toNat / 16) := h4
                  have h5' : q[p + 5] = hexAt (c.toNat % 16) := h5
                  rw [← h4'] at v4 r4
                  rw [← h5'] at v5 r5
                  have R4 := hideIt r4
                  have R5 := hideIt r5
                  have V4 := hideIt v4
                  have V5 := hideIt v5
                  have hend : (p : Int) < (q.size : Int) - 1 := by rw [hsz]; simp only [List.length_append, List.length_cons, List.length_nil]; omega
                  have hend2 : (p : Int) + 1 < (q.size : Int) - 1 := by rw [hsz]; simp only [List.length_append, List.length_cons, List.length_nil]; omega
                  have hend5 : (p : Int) + 5 < (q.size : Int) - 1 := by rw [hsz]; simp only [List.length_append, List.length_cons, List.length_nil]; omega
                  have hpe : p + 6 < q.size := by rw [hsz]; simp only [List.length_append, List.length_cons, List.length_nil]; omega
                  have HX : Hid ((hexVal q[p + 4].toNat : Int) * 16 + (hexVal q[p + 5].toNat : Int) = (c.toNat : Int)) := by
                    show _ = _
                    rw [v4, v5]; omega
                  have hv4 : hexVal q[p + 4].toNat ≤ 1 := by rw [v4]; omega
                  have hv5 : hexVal q[p + 5].toNat ≤ 15 := by rw [v5]; omega
                  clear r4 r5 hD h0 h1 h2 h3 h4 h5 h4' h5' hr hr0 hr1 hr2 hr3 hr4 hsz HD2 hnp v4 v5 N34 N92 N10 N13 N9 hlo V4 V5
                  go_wp2_with (first | (go_at_call 14; refine (hexVal_any _ _ (by first | exact R4.out | exact R5.out)).mono ?_; rintro e w' ⟨rfl, hw⟩; replace hw := hw.symm; subst hw) | (at_builtin; refine wpList_append_own _ rfl _ _ 30 rfl w.heap.size 5 i0 (.int .u8 0) 1 1 Try.underlying30 hi hz0 hz1 hz2 rfl (by decide) _ _ _ rfl (hown.alloc _) ⟨wr.heap.size, 0, none⟩ 1 1 [.int .u8 ((hexVal q[p + 4].toNat : Int) * 16 + (hexVal q[p + 5].toNat : Int))] rfl rfl ?c1 ?c2 ?c3 ?c4 ?c5 ?_))
                  case c1 => exact cell_new1 _ _ rfl _ _
                  case c2 => intro u hu; simp at hu; subst hu; rfl
                  case c3 => unfold maxLen; omega
                  case c4 => omega
                  case c5 => have := hbel.size; simp; omega
                  intro v' w2 ho hg hnil
                  have ho' : w2.ownsRow w.heap.size 5 1 v' (k + 1) (Lib.byteCells (l.take (k + 1))) := by rw [HN.out]; rw [HX.out] at ho; exact ho
                  have hb' : Below w.heap.size w w2 := (hbel.alloc hbel.size _).grown hg (by have := hbel.size; simp; omega) (fun g hgg => (hown.lt g hgg).1)
                  have HO := hideIt ho'
                  have HB := hideIt hb'
                  clear ho ho' hb' hg hnil hown hbel HN
                  go_wp2
                  go_roundw
                  case rel => exact ⟨k + 1, p + 6, by omega, by omega, by omega, by go_num, HR.out, HO.out, HB.out⟩
                  case measure => simp [intOf]; omega
    · have hkn : k = l.length := by omega
      have hD := HD.out
      rw [hkn, List.drop_length, encs_nil, List.nil_append] at hD
      obtain ⟨-, -, -, hsz⟩ := byte_at hD
      have hend : (q.size : Int) - 1 ≤ (p : Int) := by rw [hsz]; simp only [List.length_nil]; omega
      rw [hkn, List.take_length] at hown
      have hcv := conv_own hown
      clear hD hsz hkn HD hown
      go_wp2
      go_ret2
      exact ⟨rfl, hbel⟩
end Go.Proofs.Qxb6603961a
