/- writeQuoted and ZZWriteQuoted. -/
import Derived.Test.Qxb6603961aBuilder
import Derived.Test.Qxb6603961aQPlain
namespace Go.Proofs.Qxb6603961a
open Go.RowKit
set_option linter.unusedVariables false

theorem byteCells_append (a b : List UInt8) : Lib.byteCells (a ++ b) = Lib.byteCells a ++ Lib.byteCells b := by simp [Lib.byteCells]
theorem strCells_cut (s : ByteArray) (a b : Nat) : Lib.strCells (s.extract a b) = Lib.byteCells ((s.data.toList.drop a).take (b - a)) := by
  unfold Lib.strCells Lib.byteCells; rw [Lib.extract_data]
theorem strCells_lit (l : List UInt8) : Lib.strCells ⟨l.toArray⟩ = Lib.byteCells l := rfl
theorem strCells_all (s : ByteArray) : Lib.strCells s = Lib.byteCells s.data.toList := rfl

/-- What the builder holds behind k bytes of which the last k - q are still to be written. -/
structure WInv (pre : List UInt8) (s : ByteArray) (B : Nat) (w wr : World) (q k : Nat) : Prop where
  hq : q ≤ k
  hk : k ≤ s.size
  plain : ∀ j, q ≤ j → (h : j < s.size) → j < k → isPlain s[j] = true
  bd : Lib.BuilderAt 32 5 B B (.pointer (some ⟨B, 0, none⟩)) (Lib.byteCells (pre ++ 34 :: encs (s.data.toList.take q))) wr
  bel : Below B w wr

theorem take_plain (s : ByteArray) (q k : Nat) (hq : q ≤ k) (hk : k ≤ s.size) (h : ∀ j, q ≤ j → (h : j < s.size) → j < k → isPlain s[j] = true) : encs (s.data.toList.take k) = encs (s.data.toList.take q) ++ (s.data.toList.drop q).take (k - q) := by
  have e : s.data.toList.take k = s.data.toList.take q ++ (s.data.toList.drop q).take (k - q) := by
    rw [List.take_drop, show q + (k - q) = k by omega]
    have := List.take_append_drop q (s.data.toList.take k)
    rw [List.take_take, Nat.min_eq_left hq] at this
    exact this.symm
  rw [e, encs_append, encs_plain ((s.data.toList.drop q).take (k - q))]
  intro c hc
  obtain ⟨j, hj, rfl⟩ := List.mem_iff_getElem.1 hc
  have hj' : j < k - q := by simp at hj; omega
  have := h (q + j) (by omega) (by omega) (by omega)
  simp only [List.getElem_take, List.getElem_drop]
  exact this

theorem take_next (s : ByteArray) (k : Nat) (hk : k < s.size) : s.data.toList.take (k + 1) = s.data.toList.take k ++ [s[k]] := by
  rw [List.take_succ_eq_append_getElem (by simpa using hk)]; rfl

theorem wlen (pre : List UInt8) (s : ByteArray) (q : Nat) (hp : pre.length ≤ 524288) (hs : s.size ≤ 524288) : (pre ++ 34 :: encs (s.data.toList.take q)).length ≤ 4000000 := by
  have h1 := (encs_length (s.data.toList.take q)).2
  have h2 : (s.data.toList.take q).length ≤ s.size := by rw [List.length_take, size_list]; omega
  rw [List.length_append, List.length_cons]
  omega

theorem hexByte (n : Nat) (h16 : n < 16) : (⟨#[48, 49, 50, 51, 52, 53, 54, 55, 56, 57, 97, 98, 99, 100, 101, 102]⟩ : ByteArray)[n]'(h16) = hexAt n := by
  have := hexTable n h16
  rw [Array.getElem?_eq_getElem (show n < (#[48, 49, 50, 51, 52, 53, 54, 55, 56, 57, 97, 98, 99, 100, 101, 102] : Array UInt8).size from h16)] at this
  exact Option.some.inj this

theorem plain_iff (c : UInt8) : isPlain c = true ↔ 32 ≤ (c.toNat : Int) ∧ ((c.toNat : Int) == 34) = false ∧ ((c.toNat : Int) == 92) = false := by
  simp only [isPlain, Bool.and_eq_true, decide_eq_true_eq, beq_eq_false_iff_ne]
  constructor
  · rintro ⟨⟨h1, h2⟩, h3⟩
    exact ⟨by omega, fun h => h2 (eq_of_toNat (n := 34) (by omega) (by omega)), fun h => h3 (eq_of_toNat (n := 92) (by omega) (by omega))⟩
  · rintro ⟨h1, h2, h3⟩
    exact ⟨⟨by omega, by rintro rfl; exact h2 (by decide)⟩, by rintro rfl; exact h3 (by decide)⟩
theorem beqF' {x : Int} {n : Int} (h : x ≠ n) : (x == n) = false := beq_eq_false_iff_ne.2 h

set_option maxRecDepth 100000 in
set_option maxHeartbeats 4000000 in
theorem writeQuoted_any (B : Nat) (s : ByteArray) (pre : List UInt8) (w : World) (hs : s.size ≤ 524288) (hp : pre.length ≤ 524288) (hB : B ≤ w.heap.size) (h : Lib.IsBuilder 32 5 B B (Lib.byteCells pre) w) :
    Calls Try.prog 12 #[.pointer (some ⟨B, 0, none⟩), .string s] w fun e w' => e = .returned (.tuple #[]) ∧ Lib.BuilderAt 32 5 B B (.pointer (some ⟨B, 0, none⟩)) (Lib.byteCells (pre ++ 34 :: encs s.data.toList ++ [34])) w' ∧ Below B w w' := by
  go_enter Try.func12, Try.ntmps12
  go_wp2_with fail
  refine (writeByte_any B B _ 34 _ h (by rw [Lib.byteCells_length]; omega) hB).mono ?_
  rintro e w1 ⟨rfl, h1, hb1⟩
  have W0 : WInv pre s B w w1 0 0 := ⟨Nat.le_refl _, Nat.zero_le _, fun j h1 h2 h3 => absurd h3 (by omega), by
    have e : Lib.byteCells (pre ++ 34 :: encs (s.data.toList.take 0)) = Lib.byteCells pre ++ [.int .u8 34] := by rw [byteCells_append]; rfl
    rw [e]; exact h1, hb1⟩
  clear h h1 hb1
  go_wp2_with fail
  go_loopw [4, 5] (fun st i wr => ∃ k q : Nat, st = .int .i64 q ∧ i = .int .i64 k ∧ WInv pre s B w wr q k) (fun _ i _ => s.size - (intOf i).toNat)
  case atStart => exact ⟨0, 0, rfl, rfl, W0⟩
  case round =>
    clear W0
    obtain ⟨k, q, rfl, rfl, W⟩ := hrel
    have hq := W.hq
    have hk := W.hk
    have hBr : B ≤ wr.heap.size := Nat.le_trans hB W.bel.size
    by_cases hlt : k < s.size
    · by_cases hpl : isPlain s[k] = true
      · obtain ⟨o1, q34, q92⟩ := (plain_iff _).1 hpl
        have b34 : ((s[k].toNat : Int) != 34) = true := by rw [bne, q34]; rfl
        have b92 : ((s[k].toNat : Int) != 92) = true := by rw [bne, q92]; rfl
        have W' : WInv pre s B w wr q (k + 1) := ⟨by omega, by omega, fun j h1 h2 h3 => by
          by_cases e : j = k
          · subst e; exact hpl
          · exact W.plain j h1 h2 (by omega), W.bd, W.bel⟩
        have HW := hideIt W'
        clear hpl W W'
        go_wp2
        go_roundw
        case rel => exact ⟨k + 1, q, rfl, by go_num, HW.out⟩
        case measure => simp [intOf]; omega
      · have Hpl := hideIt hpl
        have HT := hideIt (take_plain s q k W.hq W.hk W.plain)
        have hl := wlen pre s q hp hs
        have hqi : (q : Int) ≤ (k : Int) := by omega
        have hki : (k : Int) ≤ (s.size : Int) := by omega
        have HN := hideIt (take_next s k hlt)
        have hbd := W.bd
        have hbel := W.bel
        clear W hpl
        have Hnext : Hid (∀ w', Lib.BuilderAt 32 5 B B (.pointer (some ⟨B, 0, none⟩)) (Lib.byteCells (pre ++ 34 :: encs (s.data.toList.take k)) ++ Lib.byteCells (enc s[k])) w' → Below B w w' → WInv pre s B w w' (k + 1) (k + 1)) := fun w' hb hw => by
          refine ⟨Nat.le_refl _, by omega, fun j h1 h2 h3 => absurd h3 (by omega), ?_, hw⟩
          have e : Lib.byteCells (pre ++ 34 :: encs (s.data.toList.take (k + 1))) = Lib.byteCells (pre ++ 34 :: encs (s.data.toList.take k)) ++ Lib.byteCells (enc s[k]) := by
            rw [HN.out, encs_append, ← byteCells_append, encs_cons, encs_nil, List.append_nil]; simp
          rw [e]; exact hb
        have HC : Hid (Lib.byteCells (pre ++ 34 :: encs (s.data.toList.take q)) ++ Lib.strCells (s.extract q k) = Lib.byteCells (pre ++ 34 :: encs (s.data.toList.take k))) := by
          show _ = _
          rw [strCells_cut, HT.out, ← byteCells_append]; simp
        have hl2 := wlen pre s k hp hs
        by_cases o1 : 32 ≤ (s[k].toNat : Int)
        · -- a quote or a backslash
          by_cases h34 : s[k] = 34
          · have q34 : ((s[k].toNat : Int) == 34) = true := by rw [h34]; rfl
            have q92 : ((s[k].toNat : Int) == 92) = false := by rw [h34]; rfl
            have b34 : ((s[k].toNat : Int) != 34) = false := by rw [bne, q34]; rfl
            have HE : Hid (Lib.byteCells (enc s[k]) = [.int .u8 92, .int .u8 (s[k].toNat : Int)]) := by
              show _ = _
              rw [enc_pair (.inl h34)]; rfl
            clear h34 Hpl
            go_wp2_with fail
            refine (writeString_any B B _ _ _ (.inr hbd) (by rw [Lib.byteCells_length]; omega) (by simp; omega) hBr).mono ?_
            rintro e w2 ⟨rfl, hbd2, hbel2⟩
            rw [HC.out] at hbd2
            go_wp2_with fail
            refine (writeByte_any B B _ _ _ (.inr hbd2) (by rw [Lib.byteCells_length]; omega) (Nat.le_trans hBr hbel2.size)).mono ?_
            rintro e w3 ⟨rfl, hbd3, hbel3⟩
            go_wp2_with fail
            refine (writeByte_any B B _ _ _ (.inr hbd3) (by rw [List.length_append, Lib.byteCells_length]; simp only [List.length_cons, List.length_nil]; omega) (Nat.le_trans hBr (Nat.le_trans hbel2.size hbel3.size))).mono ?_
            rintro e w4 ⟨rfl, hbd4, hbel4⟩
            have HW := hideIt (Hnext.out w4 (by rw [HE.out]; simpa using hbd4) (hbel.trans (hbel2.trans (hbel3.trans hbel4))))
            clear hbd hbd2 hbd3 hbd4 Hnext HC HT HN
            go_wp2
            go_roundw
            case rel => exact ⟨k + 1, k + 1, by go_num, by go_num, HW.out⟩
            case measure => simp [intOf]; omega
          · have h92 : s[k] = 92 := by
              refine Classical.byContradiction fun hne => Hpl.out ((plain_iff _).2 ⟨o1, ?_, ?_⟩)
              · exact beqF' fun h => h34 (eq_of_toNat (n := 34) (by omega) (by omega))
              · exact beqF' fun h => hne (eq_of_toNat (n := 92) (by omega) (by omega))
            have q34 : ((s[k].toNat : Int) == 34) = false := by rw [h92]; rfl
            have q92 : ((s[k].toNat : Int) == 92) = true := by rw [h92]; rfl
            have b34 : ((s[k].toNat : Int) != 34) = true := by rw [bne, q34]; rfl
            have b92 : ((s[k].toNat : Int) != 92) = false := by rw [bne, q92]; rfl
            have HE : Hid (Lib.byteCells (enc s[k]) = [.int .u8 92, .int .u8 (s[k].toNat : Int)]) := by
              show _ = _
              rw [enc_pair (.inr h92)]; rfl
            clear h34 h92 Hpl
            go_wp2_with fail
            refine (writeString_any B B _ _ _ (.inr hbd) (by rw [Lib.byteCells_length]; omega) (by simp; omega) hBr).mono ?_
            rintro e w2 ⟨rfl, hbd2, hbel2⟩
            rw [HC.out] at hbd2
            go_wp2_with fail
            refine (writeByte_any B B _ _ _ (.inr hbd2) (by rw [Lib.byteCells_length]; omega) (Nat.le_trans hBr hbel2.size)).mono ?_
            rintro e w3 ⟨rfl, hbd3, hbel3⟩
            go_wp2_with fail
            refine (writeByte_any B B _ _ _ (.inr hbd3) (by rw [List.length_append, Lib.byteCells_length]; simp only [List.length_cons, List.length_nil]; omega) (Nat.le_trans hBr (Nat.le_trans hbel2.size hbel3.size))).mono ?_
            rintro e w4 ⟨rfl, hbd4, hbel4⟩
            have HW := hideIt (Hnext.out w4 (by rw [HE.out]; simpa using hbd4) (hbel.trans (hbel2.trans (hbel3.trans hbel4))))
            clear hbd hbd2 hbd3 hbd4 Hnext HC HT HN
            go_wp2
            go_roundw
            case rel => exact ⟨k + 1, k + 1, by go_num, by go_num, HW.out⟩
            case measure => simp [intOf]; omega
        · have q34 : ((s[k].toNat : Int) == 34) = false := beqF' (by omega)
          have q92 : ((s[k].toNat : Int) == 92) = false := beqF' (by omega)
          clear Hpl
          by_cases hc : s[k] = 10
          · have q10 : ((s[k].toNat : Int) == 10) = true := by rw [hc]; rfl
            have q13 : ((s[k].toNat : Int) == 13) = false := by rw [hc]; rfl
            have q9 : ((s[k].toNat : Int) == 9) = false := by rw [hc]; rfl
            have HS : Hid (Lib.strCells ⟨#[92, 110]⟩ = Lib.byteCells (enc s[k])) := by show _ = _; rw [hc]; rfl
            clear hc
            go_wp2_with fail
            refine (writeString_any B B _ _ _ (.inr hbd) (by rw [Lib.byteCells_length]; omega) (by simp; omega) hBr).mono ?_
            rintro e w2 ⟨rfl, hbd2, hbel2⟩
            rw [HC.out] at hbd2
            go_wp2_with fail
            refine (writeString_any B B _ ⟨#[92, 110]⟩ _ (.inr hbd2) (by rw [Lib.byteCells_length]; omega) (by decide) (Nat.le_trans hBr hbel2.size)).mono ?_
            rintro e w3 ⟨rfl, hbd3, hbel3⟩
            rw [HS.out] at hbd3
            have HW := hideIt (Hnext.out w3 hbd3 (hbel.trans (hbel2.trans hbel3)))
            clear hbd hbd2 hbd3 Hnext HC HT HN
            go_wp2
            go_roundw
            case rel => exact ⟨k + 1, k + 1, by go_num, by go_num, HW.out⟩
            case measure => simp [intOf]; omega
          · have q10 : ((s[k].toNat : Int) == 10) = false := beqF' fun h => hc (eq_of_toNat (n := 10) (by omega) (by omega))
            have N10 := hideIt hc
            clear hc
            by_cases hc : s[k] = 13
            · have q13 : ((s[k].toNat : Int) == 13) = true := by rw [hc]; rfl
              have q9 : ((s[k].toNat : Int) == 9) = false := by rw [hc]; rfl
              have HS : Hid (Lib.strCells ⟨#[92, 114]⟩ = Lib.byteCells (enc s[k])) := by show _ = _; rw [hc]; rfl
              clear hc
              go_wp2_with fail
              refine (writeString_any B B _ _ _ (.inr hbd) (by rw [Lib.byteCells_length]; omega) (by simp; omega) hBr).mono ?_
              rintro e w2 ⟨rfl, hbd2, hbel2⟩
              rw [HC.out] at hbd2
              go_wp2_with fail
              refine (writeString_any B B _ ⟨#[92, 114]⟩ _ (.inr hbd2) (by rw [Lib.byteCells_length]; omega) (by decide) (Nat.le_trans hBr hbel2.size)).mono ?_
              rintro e w3 ⟨rfl, hbd3, hbel3⟩
              rw [HS.out] at hbd3
              have HW := hideIt (Hnext.out w3 hbd3 (hbel.trans (hbel2.trans hbel3)))
              clear hbd hbd2 hbd3 Hnext HC HT HN
              go_wp2
              go_roundw
              case rel => exact ⟨k + 1, k + 1, by go_num, by go_num, HW.out⟩
              case measure => simp [intOf]; omega
            · have q13 : ((s[k].toNat : Int) == 13) = false := beqF' fun h => hc (eq_of_toNat (n := 13) (by omega) (by omega))
              have N13 := hideIt hc
              clear hc
              by_cases hc : s[k] = 9
              · have q9 : ((s[k].toNat : Int) == 9) = true := by rw [hc]; rfl
                have HS : Hid (Lib.strCells ⟨#[92, 116]⟩ = Lib.byteCells (enc s[k])) := by show _ = _; rw [hc]; rfl
                clear hc
                go_wp2_with fail
                refine (writeString_any B B _ _ _ (.inr hbd) (by rw [Lib.byteCells_length]; omega) (by simp; omega) hBr).mono ?_
                rintro e w2 ⟨rfl, hbd2, hbel2⟩
                rw [HC.out] at hbd2
                go_wp2_with fail
                refine (writeString_any B B _ ⟨#[92, 116]⟩ _ (.inr hbd2) (by rw [Lib.byteCells_length]; omega) (by decide) (Nat.le_trans hBr hbel2.size)).mono ?_
                rintro e w3 ⟨rfl, hbd3, hbel3⟩
                rw [HS.out] at hbd3
                have HW := hideIt (Hnext.out w3 hbd3 (hbel.trans (hbel2.trans hbel3)))
                clear hbd hbd2 hbd3 Hnext HC HT HN
                go_wp2
                go_roundw
                case rel => exact ⟨k + 1, k + 1, by go_num, by go_num, HW.out⟩
                case measure => simp [intOf]; omega
              · have q9 : ((s[k].toNat : Int) == 9) = false := beqF' fun h => hc (eq_of_toNat (n := 9) (by omega) (by omega))
                have N9 := hideIt hc
                clear hc
                have hlo : s[k].toNat < 32 := by omega
                have HE := hideIt (enc_u hlo N10.out N13.out N9.out)
                go_wp2_with fail
                refine (writeString_any B B _ _ _ (.inr hbd) (by rw [Lib.byteCells_length]; omega) (by simp; omega) hBr).mono ?_
                rintro e w2 ⟨rfl, hbd2, hbel2⟩
                rw [HC.out] at hbd2
                go_wp2_with fail
                refine (writeString_any B B _ ⟨#[92, 117, 48, 48]⟩ _ (.inr hbd2) (by rw [Lib.byteCells_length]; omega) (by decide) (Nat.le_trans hBr hbel2.size)).mono ?_
                rintro e w3 ⟨rfl, hbd3, hbel3⟩
                go_wp2_with fail
                refine (writeByte_any B B _ _ _ (.inr hbd3) (by rw [List.length_append, Lib.byteCells_length, Lib.strCells_length]; have : (⟨#[92, 117, 48, 48]⟩ : ByteArray).size = 4 := rfl; omega) (Nat.le_trans hBr (Nat.le_trans hbel2.size hbel3.size))).mono ?_
                rintro e w4 ⟨rfl, hbd4, hbel4⟩
                go_wp2_with fail
                refine (writeByte_any B B _ _ _ (.inr hbd4) (by rw [List.length_append, List.length_append, Lib.byteCells_length, Lib.strCells_length]; have : (⟨#[92, 117, 48, 48]⟩ : ByteArray).size = 4 := rfl; simp only [List.length_cons, List.length_nil]; omega) (Nat.le_trans hBr (Nat.le_trans hbel2.size (Nat.le_trans hbel3.size hbel4.size)))).mono ?_
                rintro e w5 ⟨rfl, hbd5, hbel5⟩
                have HW := hideIt (Hnext.out w5 (by
                  rw [hexByte (s[k].toNat / 16) (by omega), hexByte (s[k].toNat % 16) (by omega)] at hbd5
                  rw [HE.out]
                  have e5 : Lib.strCells ⟨#[92, 117, 48, 48]⟩ = Lib.byteCells [92, 117, 48, 48] := rfl
                  rw [e5, List.append_assoc, List.append_assoc] at hbd5
                  exact hbd5) (hbel.trans (hbel2.trans (hbel3.trans (hbel4.trans hbel5)))))
                clear hbd hbd2 hbd3 hbd4 hbd5 Hnext HC HT HN
                go_wp2
                go_roundw
                case rel => exact ⟨k + 1, k + 1, by go_num, by go_num, HW.out⟩
                case measure => simp [intOf]; omega
    · have HT := hideIt (take_plain s q k W.hq W.hk W.plain)
      have hl := wlen pre s q hp hs
      have hkn : k = s.size := by omega
      have hqi : (q : Int) ≤ (s.size : Int) := by omega
      have HC : Hid (Lib.byteCells (pre ++ 34 :: encs (s.data.toList.take q)) ++ Lib.strCells (s.extract q s.size) = Lib.byteCells (pre ++ 34 :: encs s.data.toList)) := by
        show _ = _
        rw [strCells_cut]
        have e := HT.out
        rw [hkn, List.take_of_length_le (by rw [size_list]; omega)] at e
        rw [e, ← byteCells_append]; simp
      have hl2 := wlen pre s s.size hp hs
      rw [List.take_of_length_le (by rw [size_list]; omega)] at hl2
      have hbd := W.bd
      have hbel := W.bel
      clear W HT hkn
      go_wp2_with fail
      refine (writeString_any B B _ _ _ (.inr hbd) (by rw [Lib.byteCells_length]; omega) (by simp; omega) hBr).mono ?_
      rintro e w2 ⟨rfl, hbd2, hbel2⟩
      rw [HC.out] at hbd2
      go_wp2_with fail
      refine (writeByte_any B B _ _ _ (.inr hbd2) (by rw [Lib.byteCells_length]; omega) (Nat.le_trans hBr hbel2.size)).mono ?_
      rintro e w3 ⟨rfl, hbd3, hbel3⟩
      go_wp2
      go_end0
      refine ⟨rfl, ?_, hbel.trans (hbel2.trans hbel3)⟩
      have e : Lib.byteCells (pre ++ 34 :: encs s.data.toList ++ [34]) = Lib.byteCells (pre ++ 34 :: encs s.data.toList) ++ [.int .u8 34] := by rw [byteCells_append]; rfl
      rw [e]; exact hbd3

set_option maxRecDepth 100000 in
set_option maxHeartbeats 1000000 in
theorem zzwrite_any (p s : ByteArray) (w : World) (hs : s.size ≤ 524288) (hp : p.size ≤ 524288) :
    Calls Try.prog 6 #[.string p, .string s] w fun e w' => e = .returned (.string ⟨(p.data.toList ++ 34 :: (encs s.data.toList ++ [34])).toArray⟩) ∧ Below w.heap.size w w' := by
  have hB0 : Lib.IsBuilder 32 5 w.heap.size w.heap.size [] (w.alloc (Obj.cells #[Value.pointer none, Value.slice none 0 0] 32)) := by
    refine .inl ⟨Nat.le_refl _, .slice none 0 0, heap_alloc_new w _, World.ownsRow_nil _ _ _ _, by simp [Value.ownBlock]⟩
  have HB := hideIt hB0
  clear hB0
  have hpl : p.data.toList.length ≤ 524288 := by rw [size_list]; exact hp
  go_enter Try.func6, Try.ntmps6
  go_wp2_with fail
  refine (writeString_any w.heap.size w.heap.size [] p _ HB.out (by simp) (by omega) (by simp)).mono ?_
  rintro e w1 ⟨rfl, hbd1, hbel1⟩
  have hb1 : Below w.heap.size w w1 := ((Below.refl _ _).alloc (Nat.le_refl _) _).trans hbel1
  rw [List.nil_append, strCells_all] at hbd1
  clear hbel1 HB
  go_wp2_with fail
  refine (writeQuoted_any w.heap.size s p.data.toList w1 hs hpl hb1.size (.inr hbd1)).mono ?_
  rintro e w2 ⟨rfl, hbd2, hbel2⟩
  rw [List.append_assoc, List.cons_append] at hbd2
  have hb2 := hb1.trans hbel2
  clear hb1 hbel2 hbd1
  go_wp2_with fail
  refine (Try.Builder_String_any w.heap.size w.heap.size _ w2 (.inr hbd2) hb2.size).mono ?_
  rintro e w3 ⟨rfl, hbel3⟩
  go_wp2
  go_ret
  exact ⟨rfl, hb2.trans hbel3⟩
end Go.Proofs.Qxb6603961a
