/- zzScanAutomaton comes to what the grammar says. -/
import Derived.Test.Qxb6603961aBase
import Derived.BigQuiet
import Derived.Deep.QuietTactic
namespace Go.Proofs.Qxb6603961a
open Go.RowKit
set_option linter.unusedVariables false

def str' (l : List UInt8) : ByteArray := ⟨l.toArray⟩
def Says' (o : Option Num) (neg : Bool) (a b : ByteArray) (en : Bool) (c : ByteArray) (ok : Bool) : Prop :=
  match o with
  | none => ok = false
  | some n => ok = true ∧ neg = n.neg ∧ a = str' n.int ∧ b = str' n.frac ∧ en = n.en ∧ c = str' n.ex

def AutoPost (o : Option Num) (w : World) (e : Ending) (w' : World) : Prop :=
  ∃ neg a b en c ok, e = .returned (.tuple #[.bool neg, .string a, .string b, .bool en, .string c, .bool ok]) ∧ Says' o neg a b en c ok ∧ ∃ n, w' = w.drewN n

def sub (l : List UInt8) (a b : Nat) : List UInt8 := (l.drop a).take (b - a)
def frOf (hf : Bool) (l : List UInt8) (fs fe : Nat) : List UInt8 := if hf then sub l fs fe else []
theorem sub_self (l : List UInt8) (k : Nat) : sub l k k = [] := by simp [sub]
theorem sub_snoc {l r : List UInt8} {c : UInt8} {a k : Nat} (ha : a ≤ k) (h : l.drop k = c :: r) : sub l a (k + 1) = sub l a k ++ [c] := by
  unfold sub
  have hd : (l.drop a).drop (k - a) = c :: r := by rw [List.drop_drop]; rw [show a + (k - a) = k by omega]; exact h
  have hl : k - a < (l.drop a).length := by
    rcases Nat.lt_or_ge (k - a) (l.drop a).length with h' | h'
    · exact h'
    · rw [List.drop_of_length_le h'] at hd; cases hd
  rw [show k + 1 - a = (k - a) + 1 by omega, List.take_succ_eq_append_getElem hl]
  congr 1
  rw [List.drop_eq_getElem_cons hl] at hd
  simp only [List.cons.injEq] at hd
  rw [hd.1]
theorem sub_one {l r : List UInt8} {c : UInt8} {k : Nat} (h : l.drop k = c :: r) : sub l k (k + 1) = [c] := by
  rw [sub_snoc (Nat.le_refl k) h, sub_self]; rfl

/-- The automaton's state at position k: what is left of the grammar's road. -/
def AInv (loose : Bool) (l : List UInt8) (k : Nat) (st : Int) (neg en hf : Bool) (is ie fs fe es : Nat) : Prop :=
  (st = 0 ∧ k = 0 ∧ neg = false ∧ en = false ∧ hf = false) ∨
  (st = 1 ∧ scan loose l = res1 loose neg (l.drop k) ∧ en = false ∧ hf = false) ∨
  (st = 2 ∧ scan loose l = res2 neg (l.drop k) ∧ sub l is k = [48] ∧ is ≤ k ∧ en = false ∧ hf = false) ∨
  (st = 3 ∧ scan loose l = res3 neg (sub l is k) (l.drop k) ∧ is ≤ k ∧ en = false ∧ hf = false) ∨
  (st = 4 ∧ scan loose l = res4 ⟨neg, sub l is ie, [], false, []⟩ (l.drop k) ∧ is ≤ ie ∧ ie ≤ k ∧ en = false ∧ hf = false) ∨
  (st = 5 ∧ scan loose l = res5 ⟨neg, sub l is ie, [], false, []⟩ (sub l fs k) (l.drop k) ∧ is ≤ ie ∧ ie ≤ k ∧ fs ≤ k ∧ en = false ∧ hf = true) ∨
  (st = 6 ∧ scan loose l = res6 ⟨neg, sub l is ie, frOf hf l fs fe, false, []⟩ (l.drop k) ∧ is ≤ ie ∧ ie ≤ k ∧ (hf = true → fs ≤ fe ∧ fe ≤ k) ∧ en = false) ∨
  (st = 7 ∧ scan loose l = res7 ⟨neg, sub l is ie, frOf hf l fs fe, en, []⟩ (l.drop k) ∧ is ≤ ie ∧ ie ≤ k ∧ (hf = true → fs ≤ fe ∧ fe ≤ k)) ∨
  (st = 8 ∧ scan loose l = res8 ⟨neg, sub l is ie, frOf hf l fs fe, en, []⟩ (sub l es k) (l.drop k) ∧ is ≤ ie ∧ ie ≤ k ∧ (hf = true → fs ≤ fe ∧ fe ≤ k) ∧ es ≤ k)

section
variable {loose : Bool} {l : List UInt8} {k : Nat} {neg en hf : Bool} {is ie fs fe es : Nat}
theorem AInv.mk1 (h : scan loose l = res1 loose neg (l.drop k)) : AInv loose l k 1 neg false false is ie fs fe es := .inr (.inl ⟨rfl, h, rfl, rfl⟩)
theorem AInv.mk2 (h : scan loose l = res2 neg (l.drop k)) (h1 : sub l is k = [48]) (h2 : is ≤ k) : AInv loose l k 2 neg false false is ie fs fe es := .inr (.inr (.inl ⟨rfl, h, h1, h2, rfl, rfl⟩))
theorem AInv.mk3 (h : scan loose l = res3 neg (sub l is k) (l.drop k)) (h2 : is ≤ k) : AInv loose l k 3 neg false false is ie fs fe es := .inr (.inr (.inr (.inl ⟨rfl, h, h2, rfl, rfl⟩)))
theorem AInv.mk4 (h : scan loose l = res4 ⟨neg, sub l is ie, [], false, []⟩ (l.drop k)) (h1 : is ≤ ie) (h2 : ie ≤ k) : AInv loose l k 4 neg false false is ie fs fe es := .inr (.inr (.inr (.inr (.inl ⟨rfl, h, h1, h2, rfl, rfl⟩))))
theorem AInv.mk5 (h : scan loose l = res5 ⟨neg, sub l is ie, [], false, []⟩ (sub l fs k) (l.drop k)) (h1 : is ≤ ie) (h2 : ie ≤ k) (h3 : fs ≤ k) : AInv loose l k 5 neg false true is ie fs fe es := .inr (.inr (.inr (.inr (.inr (.inl ⟨rfl, h, h1, h2, h3, rfl, rfl⟩)))))
theorem AInv.mk6 (h : scan loose l = res6 ⟨neg, sub l is ie, frOf hf l fs fe, false, []⟩ (l.drop k)) (h1 : is ≤ ie) (h2 : ie ≤ k) (h3 : hf = true → fs ≤ fe ∧ fe ≤ k) : AInv loose l k 6 neg false hf is ie fs fe es := .inr (.inr (.inr (.inr (.inr (.inr (.inl ⟨rfl, h, h1, h2, h3, rfl⟩))))))
theorem AInv.mk7 (h : scan loose l = res7 ⟨neg, sub l is ie, frOf hf l fs fe, en, []⟩ (l.drop k)) (h1 : is ≤ ie) (h2 : ie ≤ k) (h3 : hf = true → fs ≤ fe ∧ fe ≤ k) : AInv loose l k 7 neg en hf is ie fs fe es := .inr (.inr (.inr (.inr (.inr (.inr (.inr (.inl ⟨rfl, h, h1, h2, h3⟩)))))))
theorem AInv.mk8 (h : scan loose l = res8 ⟨neg, sub l is ie, frOf hf l fs fe, en, []⟩ (sub l es k) (l.drop k)) (h1 : is ≤ ie) (h2 : ie ≤ k) (h3 : hf = true → fs ≤ fe ∧ fe ≤ k) (h4 : es ≤ k) : AInv loose l k 8 neg en hf is ie fs fe es := .inr (.inr (.inr (.inr (.inr (.inr (.inr (.inr ⟨rfl, h, h1, h2, h3, h4⟩)))))))
end

theorem cls (c : UInt8) : c = 45 ∨ c = 43 ∨ c = 46 ∨ c = 101 ∨ c = 69 ∨ c = 48 ∨ (49 ≤ (c.toNat : Int) ∧ (c.toNat : Int) ≤ 57) ∨
    (c ≠ 45 ∧ c ≠ 43 ∧ c ≠ 46 ∧ ¬ (c = 101 ∨ c = 69) ∧ (c.toNat : Int) < 48) ∨ (c ≠ 45 ∧ c ≠ 43 ∧ c ≠ 46 ∧ ¬ (c = 101 ∨ c = 69) ∧ 57 < (c.toNat : Int)) := by
  by_cases h1 : c = 45
  · exact .inl h1
  by_cases h2 : c = 43
  · exact .inr (.inl h2)
  by_cases h3 : c = 46
  · exact .inr (.inr (.inl h3))
  by_cases h4 : c = 101
  · exact .inr (.inr (.inr (.inl h4)))
  by_cases h5 : c = 69
  · exact .inr (.inr (.inr (.inr (.inl h5))))
  by_cases h6 : c = 48
  · exact .inr (.inr (.inr (.inr (.inr (.inl h6)))))
  have h6' : c.toNat ≠ 48 := fun h => h6 (eq_of_toNat (n := 48) (by omega) h)
  by_cases h7 : (c.toNat : Int) < 48
  · exact .inr (.inr (.inr (.inr (.inr (.inr (.inr (.inl ⟨h1, h2, h3, by simp [h4, h5], h7⟩)))))))
  by_cases h8 : 57 < (c.toNat : Int)
  · exact .inr (.inr (.inr (.inr (.inr (.inr (.inr (.inr ⟨h1, h2, h3, by simp [h4, h5], h8⟩)))))))
  · exact .inr (.inr (.inr (.inr (.inr (.inr (.inl ⟨by omega, by omega⟩))))))

theorem neB {c : UInt8} {n : Nat} (hn : n < 256) (h : c ≠ UInt8.ofNat n) : ((c.toNat : Int) == (n : Int)) = false := by
  rw [beq_eq_false_iff_ne]
  intro h'
  exact h (eq_of_toNat hn (by omega))
theorem beqF {x : Int} {n : Int} (h : x ≠ n) : (x == n) = false := beq_eq_false_iff_ne.2 h

set_option maxRecDepth 100000 in
set_option maxHeartbeats 20000000 in
theorem auto_any (s : ByteArray) (loose : Bool) (w : World) (hs : s.size ≤ 1048576) :
    Calls Try.prog 10 #[.string s, .bool loose] w fun e w' => AutoPost (scan loose s.data.toList) w e w' := by
  go_enter Try.func10, Try.ntmps10
  go_wp2
  go_loop [10, 11, 12, 13, 14, 15, 16, 17, 18, 19] (fun v10 v11 v12 v13 v14 v15 v16 v17 v18 v19 => ∃ (k : Nat) (st : Int) (neg en hf : Bool) (is ie fs fe es : Nat), k ≤ s.size ∧ is ≤ s.size ∧ ie ≤ s.size ∧ fs ≤ s.size ∧ fe ≤ s.size ∧ es ≤ s.size ∧ v10 = .int .i64 st ∧ v11 = .bool neg ∧ v12 = .bool en ∧ v13 = .bool hf ∧ v14 = .int .i64 is ∧ v15 = .int .i64 ie ∧ v16 = .int .i64 fs ∧ v17 = .int .i64 fe ∧ v18 = .int .i64 es ∧ v19 = .int .i64 k ∧ AInv loose s.data.toList k st neg en hf is ie fs fe es) (fun _ _ _ _ _ _ _ _ _ i => s.size - (intOf i).toNat)
  case atStart => exact ⟨0, 0, false, false, false, 0, 0, 0, 0, 0, by omega, by omega, by omega, by omega, by omega, by omega, rfl, rfl, rfl, rfl, rfl, rfl, rfl, rfl, rfl, rfl, .inl ⟨rfl, rfl, rfl, rfl, rfl⟩⟩
  case round =>
    obtain ⟨k, st, neg, en, hf, is, ie, fs, fe, es, hk, b1, b2, b3, b4, b5, rfl, rfl, rfl, rfl, rfl, rfl, rfl, rfl, rfl, rfl, hinv⟩ := hrel
    rcases hinv with ⟨rfl, rfl, rfl, rfl, rfl⟩ | ⟨rfl, hA, rfl, rfl⟩ | ⟨rfl, hA, hz, hik, rfl, rfl⟩ | ⟨rfl, hA, hik, rfl, rfl⟩ | ⟨rfl, hA, hii, hik, rfl, rfl⟩ | ⟨rfl, hA, hii, hik, hfk, rfl, rfl⟩ | ⟨rfl, hA, hii, hik, hF, rfl⟩ | ⟨rfl, hA, hii, hik, hF⟩ | ⟨rfl, hA, hii, hik, hF, hek⟩
    · as_aux_lemma =>
      have HA : Hid (scan loose s.data.toList = scan loose (s.data.toList.drop 0)) := rfl
      by_cases hlt : 0 < s.size
      · have HL := hideIt (list_at s 0 hlt)
        by_cases hc : s[0] = 45
        · have q45 : ((s[0].toNat : Int) == 45) = true := by rw [hc]; rfl
          have q43 : ((s[0].toNat : Int) == 43) = false := by rw [hc]; rfl
          have q46 : ((s[0].toNat : Int) == 46) = false := by rw [hc]; rfl
          have q101 : ((s[0].toNat : Int) == 101) = false := by rw [hc]; rfl
          have q69 : ((s[0].toNat : Int) == 69) = false := by rw [hc]; rfl
          have q48 : ((s[0].toNat : Int) == 48) = false := by rw [hc]; rfl
          have o1 : (s[0].toNat : Int) < 48 := by rw [hc]; decide
          have o2 : (s[0].toNat : Int) ≤ 57 := by rw [hc]; decide
          have HD : Hid (isD s[0] = false) := by show _ = _; rw [hc]; rfl
          have HC := hideIt hc
          clear hc
          have HV : Hid (AInv loose s.data.toList (1) 1 true false false is ie fs fe es) := AInv.mk1 (by rw [HA.out, HL.out, HC.out, scan_minus])
          clear HA HL HD
          go_wp2
          go_round
          case rel => exact ⟨1, 1, true, false, false, is, ie, fs, fe, es, by omega, by omega, by omega, by omega, by omega, by omega, rfl, rfl, rfl, rfl, rfl, rfl, rfl, rfl, rfl, by go_num, HV⟩
          case measure => simp [intOf]; omega
        · have N45 : Hid (s[0] ≠ 45) := hc
          have q45 : ((s[0].toNat : Int) == 45) = false := neB (n := 45) (by decide) hc
          clear hc
          by_cases hc : s[0] = 43
          · have q45 : ((s[0].toNat : Int) == 45) = false := by rw [hc]; rfl
            have q43 : ((s[0].toNat : Int) == 43) = true := by rw [hc]; rfl
            have q46 : ((s[0].toNat : Int) == 46) = false := by rw [hc]; rfl
            have q101 : ((s[0].toNat : Int) == 101) = false := by rw [hc]; rfl
            have q69 : ((s[0].toNat : Int) == 69) = false := by rw [hc]; rfl
            have q48 : ((s[0].toNat : Int) == 48) = false := by rw [hc]; rfl
            have o1 : (s[0].toNat : Int) < 48 := by rw [hc]; decide
            have o2 : (s[0].toNat : Int) ≤ 57 := by rw [hc]; decide
            have HD : Hid (isD s[0] = false) := by show _ = _; rw [hc]; rfl
            have HC := hideIt hc
            clear hc
            cases loose
            · have HN : Hid (scan false s.data.toList = none) := by rw [HA.out, HL.out, HC.out, scan_bare _ _ _ (by decide) (by simp)]; exact res1_other _ _ _ _ (by decide)
              clear HA HL HD
              go_wp2
              all_goals exact bodyPost_ret (v := .tuple #[.bool false, .string ⟨#[]⟩, .string ⟨#[]⟩, .bool false, .string ⟨#[]⟩, .bool false]) (by simp [results, Try.results10, go_sem]) rfl ⟨false, ⟨#[]⟩, ⟨#[]⟩, false, ⟨#[]⟩, false, rfl, by rw [HN.out]; rfl, 0, rfl⟩
            · have HV : Hid (AInv true s.data.toList (1) 1 false false false is ie fs fe es) := AInv.mk1 (by rw [HA.out, HL.out, HC.out, scan_plus])
              clear HA HL HD
              go_wp2
              go_round
              case rel => exact ⟨1, 1, false, false, false, is, ie, fs, fe, es, by omega, by omega, by omega, by omega, by omega, by omega, rfl, rfl, rfl, rfl, rfl, rfl, rfl, rfl, rfl, by go_num, HV⟩
              case measure => simp [intOf]; omega
          · have N43 : Hid (s[0] ≠ 43) := hc
            have q43 : ((s[0].toNat : Int) == 43) = false := neB (n := 43) (by decide) hc
            clear hc
            by_cases hc : s[0] = 48
            · have q45 : ((s[0].toNat : Int) == 45) = false := by rw [hc]; rfl
              have q43 : ((s[0].toNat : Int) == 43) = false := by rw [hc]; rfl
              have q46 : ((s[0].toNat : Int) == 46) = false := by rw [hc]; rfl
              have q101 : ((s[0].toNat : Int) == 101) = false := by rw [hc]; rfl
              have q69 : ((s[0].toNat : Int) == 69) = false := by rw [hc]; rfl
              have q48 : ((s[0].toNat : Int) == 48) = true := by rw [hc]; rfl
              have o1 : 48 ≤ (s[0].toNat : Int) := by rw [hc]; decide
              have o2 : (s[0].toNat : Int) ≤ 57 := by rw [hc]; decide
              have HD : Hid (isD s[0] = true) := by show _ = _; rw [hc]; rfl
              have HC := hideIt hc
              clear hc
              cases loose
              · have HV : Hid (AInv false s.data.toList (1) 2 false false false 0 ie fs fe es) := AInv.mk2 (by rw [HA.out, HL.out, HC.out, scan_bare _ _ _ (by decide) (by simp), res1_zero]) (by rw [sub_one HL.out, HC.out]) (by omega)
                clear HA HL HD
                go_wp2
                go_round
                case rel => exact ⟨1, 2, false, false, false, 0, ie, fs, fe, es, by omega, by omega, by omega, by omega, by omega, by omega, rfl, rfl, rfl, rfl, rfl, rfl, rfl, rfl, rfl, by go_num, HV⟩
                case measure => simp [intOf]; omega
              · have HV : Hid (AInv true s.data.toList (1) 3 false false false 0 ie fs fe es) := AInv.mk3 (by rw [HA.out, HL.out, HC.out, scan_bare _ _ _ (by decide) (by simp), res1_digit _ _ _ _ (by decide) (.inl rfl), sub_one HL.out, HC.out]) (by omega)
                clear HA HL HD
                go_wp2
                go_round
                case rel => exact ⟨1, 3, false, false, false, 0, ie, fs, fe, es, by omega, by omega, by omega, by omega, by omega, by omega, rfl, rfl, rfl, rfl, rfl, rfl, rfl, rfl, rfl, by go_num, HV⟩
                case measure => simp [intOf]; omega
            · have N48 : Hid (s[0] ≠ 48) := hc
              have q48 : ((s[0].toNat : Int) == 48) = false := neB (n := 48) (by decide) hc
              clear hc
              by_cases hd : 48 ≤ (s[0].toNat : Int) ∧ (s[0].toNat : Int) ≤ 57
              · have HD : Hid (isD s[0] = true) := (isD_iff _).2 hd
                obtain ⟨o1, o2⟩ := hd
                have HC := N48
                have D45 := N45.out
                have D43 : ¬ (s[0] = 43 ∧ loose = true) := fun h => N43.out h.1
                have HV : Hid (AInv loose s.data.toList (1) 3 false false false 0 ie fs fe es) := AInv.mk3 (by rw [HA.out, HL.out, scan_bare _ _ _ D45 D43, res1_digit _ _ _ _ HD.out (.inr HC.out), sub_one HL.out]) (by omega)
                clear HA HL HD
                go_wp2
                go_round
                case rel => exact ⟨1, 3, false, false, false, 0, ie, fs, fe, es, by omega, by omega, by omega, by omega, by omega, by omega, rfl, rfl, rfl, rfl, rfl, rfl, rfl, rfl, rfl, by go_num, HV⟩
                case measure => simp [intOf]; omega
              · have HD : Hid (isD s[0] = false) := isD_false _ hd
                by_cases o1 : (s[0].toNat : Int) < 48
                · clear hd
                  have HN : Hid (scan loose s.data.toList = none) := by rw [HA.out, HL.out, scan_bare _ _ _ N45.out (fun h => N43.out h.1)]; exact res1_other _ _ _ _ HD.out
                  clear HA HL HD
                  go_wp2
                  all_goals exact bodyPost_ret (v := .tuple #[.bool false, .string ⟨#[]⟩, .string ⟨#[]⟩, .bool false, .string ⟨#[]⟩, .bool false]) (by simp [results, Try.results10, go_sem]) rfl ⟨false, ⟨#[]⟩, ⟨#[]⟩, false, ⟨#[]⟩, false, rfl, by rw [HN.out]; rfl, 0, rfl⟩
                · have o2 : 57 < (s[0].toNat : Int) := by omega
                  have o1' : 48 ≤ (s[0].toNat : Int) := by omega
                  clear hd o1
                  have HN : Hid (scan loose s.data.toList = none) := by rw [HA.out, HL.out, scan_bare _ _ _ N45.out (fun h => N43.out h.1)]; exact res1_other _ _ _ _ HD.out
                  clear HA HL HD
                  go_wp2
                  all_goals exact bodyPost_ret (v := .tuple #[.bool false, .string ⟨#[]⟩, .string ⟨#[]⟩, .bool false, .string ⟨#[]⟩, .bool false]) (by simp [results, Try.results10, go_sem]) rfl ⟨false, ⟨#[]⟩, ⟨#[]⟩, false, ⟨#[]⟩, false, rfl, by rw [HN.out]; rfl, 0, rfl⟩
      · have hkn : 0 = s.size := by omega
        have HE : Hid (s.data.toList.drop 0 = []) := List.drop_of_length_le (by rw [size_list]; omega)
        have HN : Hid (scan loose s.data.toList = none) := by show _ = _; rw [HA.out, HE.out, scan_nil]
        clear HA HE hkn
        go_wp2
        exact bodyPost_ret (v := .tuple #[.bool false, .string ⟨#[]⟩, .string ⟨#[]⟩, .bool false, .string ⟨#[]⟩, .bool false]) (by simp [results, Try.results10, go_sem]) rfl ⟨false, ⟨#[]⟩, ⟨#[]⟩, false, ⟨#[]⟩, false, rfl, by rw [HN.out]; rfl, 0, rfl⟩
    · as_aux_lemma =>
      have HA := hideIt hA
      clear hA
      by_cases hlt : k < s.size
      · have HL := hideIt (list_at s k hlt)
        by_cases hc : s[k] = 48
        · have q45 : ((s[k].toNat : Int) == 45) = false := by rw [hc]; rfl
          have q43 : ((s[k].toNat : Int) == 43) = false := by rw [hc]; rfl
          have q46 : ((s[k].toNat : Int) == 46) = false := by rw [hc]; rfl
          have q101 : ((s[k].toNat : Int) == 101) = false := by rw [hc]; rfl
          have q69 : ((s[k].toNat : Int) == 69) = false := by rw [hc]; rfl
          have q48 : ((s[k].toNat : Int) == 48) = true := by rw [hc]; rfl
          have o1 : 48 ≤ (s[k].toNat : Int) := by rw [hc]; decide
          have o2 : (s[k].toNat : Int) ≤ 57 := by rw [hc]; decide
          have HD : Hid (isD s[k] = true) := by show _ = _; rw [hc]; rfl
          have HC := hideIt hc
          clear hc
          cases loose
          · have HV : Hid (AInv false s.data.toList (k + 1) 2 neg false false k ie fs fe es) := AInv.mk2 (by rw [HA.out, HL.out, HC.out, res1_zero]) (by rw [sub_one HL.out, HC.out]) (by omega)
            clear HA HL HD
            go_wp2
            go_round
            case rel => exact ⟨k + 1, 2, neg, false, false, k, ie, fs, fe, es, by omega, by omega, by omega, by omega, by omega, by omega, rfl, rfl, rfl, rfl, rfl, rfl, rfl, rfl, rfl, by go_num, HV⟩
            case measure => simp [intOf]; omega
          · have HV : Hid (AInv true s.data.toList (k + 1) 3 neg false false k ie fs fe es) := AInv.mk3 (by rw [HA.out, HL.out, res1_digit _ _ _ _ HD.out (.inl rfl), sub_one HL.out]) (by omega)
            clear HA HL HD
            go_wp2
            go_round
            case rel => exact ⟨k + 1, 3, neg, false, false, k, ie, fs, fe, es, by omega, by omega, by omega, by omega, by omega, by omega, rfl, rfl, rfl, rfl, rfl, rfl, rfl, rfl, rfl, by go_num, HV⟩
            case measure => simp [intOf]; omega
        · have N48 : Hid (s[k] ≠ 48) := hc
          have q48 : ((s[k].toNat : Int) == 48) = false := neB (n := 48) (by decide) hc
          clear hc
          by_cases hd : 48 ≤ (s[k].toNat : Int) ∧ (s[k].toNat : Int) ≤ 57
          · have HD : Hid (isD s[k] = true) := (isD_iff _).2 hd
            obtain ⟨o1, o2⟩ := hd
            have HC := N48
            have HV : Hid (AInv loose s.data.toList (k + 1) 3 neg false false k ie fs fe es) := AInv.mk3 (by rw [HA.out, HL.out, res1_digit _ _ _ _ HD.out (.inr HC.out), sub_one HL.out]) (by omega)
            clear HA HL HD
            go_wp2
            go_round
            case rel => exact ⟨k + 1, 3, neg, false, false, k, ie, fs, fe, es, by omega, by omega, by omega, by omega, by omega, by omega, rfl, rfl, rfl, rfl, rfl, rfl, rfl, rfl, rfl, by go_num, HV⟩
            case measure => simp [intOf]; omega
          · have HD : Hid (isD s[k] = false) := isD_false _ hd
            by_cases o1 : (s[k].toNat : Int) < 48
            · clear hd
              have HN : Hid (scan loose s.data.toList = none) := by rw [HA.out, HL.out]; exact res1_other _ _ _ _ HD.out
              clear HA HL HD
              go_wp2
              all_goals exact bodyPost_ret (v := .tuple #[.bool false, .string ⟨#[]⟩, .string ⟨#[]⟩, .bool false, .string ⟨#[]⟩, .bool false]) (by simp [results, Try.results10, go_sem]) rfl ⟨false, ⟨#[]⟩, ⟨#[]⟩, false, ⟨#[]⟩, false, rfl, by rw [HN.out]; rfl, 0, rfl⟩
            · have o2 : 57 < (s[k].toNat : Int) := by omega
              have o1' : 48 ≤ (s[k].toNat : Int) := by omega
              clear hd o1
              have HN : Hid (scan loose s.data.toList = none) := by rw [HA.out, HL.out]; exact res1_other _ _ _ _ HD.out
              clear HA HL HD
              go_wp2
              all_goals exact bodyPost_ret (v := .tuple #[.bool false, .string ⟨#[]⟩, .string ⟨#[]⟩, .bool false, .string ⟨#[]⟩, .bool false]) (by simp [results, Try.results10, go_sem]) rfl ⟨false, ⟨#[]⟩, ⟨#[]⟩, false, ⟨#[]⟩, false, rfl, by rw [HN.out]; rfl, 0, rfl⟩
      · have hkn : k = s.size := by omega
        have HE : Hid (s.data.toList.drop k = []) := List.drop_of_length_le (by rw [size_list]; omega)
        have HN : Hid (scan loose s.data.toList = none) := by show _ = _; rw [HA.out, HE.out, res1_nil]
        clear HA HE hkn
        go_wp2
        exact bodyPost_ret (v := .tuple #[.bool false, .string ⟨#[]⟩, .string ⟨#[]⟩, .bool false, .string ⟨#[]⟩, .bool false]) (by simp [results, Try.results10, go_sem]) rfl ⟨false, ⟨#[]⟩, ⟨#[]⟩, false, ⟨#[]⟩, false, rfl, by rw [HN.out]; rfl, 0, rfl⟩
    · as_aux_lemma =>
      have HA := hideIt hA
      clear hA
      have HZ := hideIt hz
      clear hz
      by_cases hlt : k < s.size
      · have HL := hideIt (list_at s k hlt)
        by_cases hc : s[k] = 46
        · have q45 : ((s[k].toNat : Int) == 45) = false := by rw [hc]; rfl
          have q43 : ((s[k].toNat : Int) == 43) = false := by rw [hc]; rfl
          have q46 : ((s[k].toNat : Int) == 46) = true := by rw [hc]; rfl
          have q101 : ((s[k].toNat : Int) == 101) = false := by rw [hc]; rfl
          have q69 : ((s[k].toNat : Int) == 69) = false := by rw [hc]; rfl
          have q48 : ((s[k].toNat : Int) == 48) = false := by rw [hc]; rfl
          have o1 : (s[k].toNat : Int) < 48 := by rw [hc]; decide
          have o2 : (s[k].toNat : Int) ≤ 57 := by rw [hc]; decide
          have HD : Hid (isD s[k] = false) := by show _ = _; rw [hc]; rfl
          have HC := hideIt hc
          clear hc
          have HV : Hid (AInv loose s.data.toList (k + 1) 4 neg false false is k fs fe es) := AInv.mk4 (by rw [HA.out, HL.out, HC.out, res2_dot, HZ.out]) (by omega) (by omega)
          clear HA HL HD
          go_wp2
          go_round
          case rel => exact ⟨k + 1, 4, neg, false, false, is, k, fs, fe, es, by omega, by omega, by omega, by omega, by omega, by omega, rfl, rfl, rfl, rfl, rfl, rfl, rfl, rfl, rfl, by go_num, HV⟩
          case measure => simp [intOf]; omega
        · have N46 : Hid (s[k] ≠ 46) := hc
          have q46 : ((s[k].toNat : Int) == 46) = false := neB (n := 46) (by decide) hc
          clear hc
          by_cases hc : s[k] = 101
          · have q45 : ((s[k].toNat : Int) == 45) = false := by rw [hc]; rfl
            have q43 : ((s[k].toNat : Int) == 43) = false := by rw [hc]; rfl
            have q46 : ((s[k].toNat : Int) == 46) = false := by rw [hc]; rfl
            have q101 : ((s[k].toNat : Int) == 101) = true := by rw [hc]; rfl
            have q69 : ((s[k].toNat : Int) == 69) = false := by rw [hc]; rfl
            have q48 : ((s[k].toNat : Int) == 48) = false := by rw [hc]; rfl
            have o1 : 48 ≤ (s[k].toNat : Int) := by rw [hc]; decide
            have o2 : 57 < (s[k].toNat : Int) := by rw [hc]; decide
            have HD : Hid (isD s[k] = false) := by show _ = _; rw [hc]; rfl
            have HC := hideIt hc
            clear hc
            have HV : Hid (AInv loose s.data.toList (k + 1) 6 neg false false is k fs fe es) := AInv.mk6 (by rw [HA.out, HL.out, res2_mark _ _ _ (by rw [HC.out]; decide), HZ.out]; rfl) (by omega) (by omega) (fun h => by cases h)
            clear HA HL HD
            go_wp2
            go_round
            case rel => exact ⟨k + 1, 6, neg, false, false, is, k, fs, fe, es, by omega, by omega, by omega, by omega, by omega, by omega, rfl, rfl, rfl, rfl, rfl, rfl, rfl, rfl, rfl, by go_num, HV⟩
            case measure => simp [intOf]; omega
          · have N101 : Hid (s[k] ≠ 101) := hc
            have q101 : ((s[k].toNat : Int) == 101) = false := neB (n := 101) (by decide) hc
            clear hc
            by_cases hc : s[k] = 69
            · have q45 : ((s[k].toNat : Int) == 45) = false := by rw [hc]; rfl
              have q43 : ((s[k].toNat : Int) == 43) = false := by rw [hc]; rfl
              have q46 : ((s[k].toNat : Int) == 46) = false := by rw [hc]; rfl
              have q101 : ((s[k].toNat : Int) == 101) = false := by rw [hc]; rfl
              have q69 : ((s[k].toNat : Int) == 69) = true := by rw [hc]; rfl
              have q48 : ((s[k].toNat : Int) == 48) = false := by rw [hc]; rfl
              have o1 : 48 ≤ (s[k].toNat : Int) := by rw [hc]; decide
              have o2 : 57 < (s[k].toNat : Int) := by rw [hc]; decide
              have HD : Hid (isD s[k] = false) := by show _ = _; rw [hc]; rfl
              have HC := hideIt hc
              clear hc
              have HV : Hid (AInv loose s.data.toList (k + 1) 6 neg false false is k fs fe es) := AInv.mk6 (by rw [HA.out, HL.out, res2_mark _ _ _ (by rw [HC.out]; decide), HZ.out]; rfl) (by omega) (by omega) (fun h => by cases h)
              clear HA HL HD
              go_wp2
              go_round
              case rel => exact ⟨k + 1, 6, neg, false, false, is, k, fs, fe, es, by omega, by omega, by omega, by omega, by omega, by omega, rfl, rfl, rfl, rfl, rfl, rfl, rfl, rfl, rfl, by go_num, HV⟩
              case measure => simp [intOf]; omega
            · have N69 : Hid (s[k] ≠ 69) := hc
              have q69 : ((s[k].toNat : Int) == 69) = false := neB (n := 69) (by decide) hc
              clear hc
              have NE : Hid (¬ (s[k] = 101 ∨ s[k] = 69)) := fun h => h.elim N101.out N69.out
              by_cases hd : 48 ≤ (s[k].toNat : Int) ∧ (s[k].toNat : Int) ≤ 57
              · have HD : Hid (isD s[k] = true) := (isD_iff _).2 hd
                obtain ⟨o1, o2⟩ := hd
                have HN : Hid (scan loose s.data.toList = none) := by rw [HA.out, HL.out]; exact res2_digit _ _ _ HD.out
                clear HA HL HD
                go_wp2
                all_goals exact bodyPost_ret (v := .tuple #[.bool false, .string ⟨#[]⟩, .string ⟨#[]⟩, .bool false, .string ⟨#[]⟩, .bool false]) (by simp [results, Try.results10, go_sem]) rfl ⟨false, ⟨#[]⟩, ⟨#[]⟩, false, ⟨#[]⟩, false, rfl, by rw [HN.out]; rfl, 0, rfl⟩
              · have HD : Hid (isD s[k] = false) := isD_false _ hd
                by_cases o1 : (s[k].toNat : Int) < 48
                · clear hd
                  have HN : Hid (scan loose s.data.toList = none) := by rw [HA.out, HL.out]; exact res2_other _ _ _ N46.out NE.out
                  clear HA HL HD
                  go_wp2
                  all_goals exact bodyPost_ret (v := .tuple #[.bool false, .string ⟨#[]⟩, .string ⟨#[]⟩, .bool false, .string ⟨#[]⟩, .bool false]) (by simp [results, Try.results10, go_sem]) rfl ⟨false, ⟨#[]⟩, ⟨#[]⟩, false, ⟨#[]⟩, false, rfl, by rw [HN.out]; rfl, 0, rfl⟩
                · have o2 : 57 < (s[k].toNat : Int) := by omega
                  have o1' : 48 ≤ (s[k].toNat : Int) := by omega
                  clear hd o1
                  have HN : Hid (scan loose s.data.toList = none) := by rw [HA.out, HL.out]; exact res2_other _ _ _ N46.out NE.out
                  clear HA HL HD
                  go_wp2
                  all_goals exact bodyPost_ret (v := .tuple #[.bool false, .string ⟨#[]⟩, .string ⟨#[]⟩, .bool false, .string ⟨#[]⟩, .bool false]) (by simp [results, Try.results10, go_sem]) rfl ⟨false, ⟨#[]⟩, ⟨#[]⟩, false, ⟨#[]⟩, false, rfl, by rw [HN.out]; rfl, 0, rfl⟩
      · have hkn : k = s.size := by omega
        have HE : Hid (s.data.toList.drop k = []) := List.drop_of_length_le (by rw [size_list]; omega)
        have HN : Hid (scan loose s.data.toList = some ⟨neg, [48], [], false, []⟩) := by show _ = _; rw [HA.out, HE.out, res2_nil]
        have HX : Hid (s.extract is s.size = str' ([48])) := by show _ = _; rw [Lib.extract_eq, ← hkn]; exact congrArg str' HZ.out
        have hik2 : (is : Int) ≤ (s.size : Int) := by omega
        clear HA HE hkn
        go_wp2
        go_quiet (fail)
        go_wp2
        exact bodyPost_ret (v := .tuple #[.bool neg, .string (s.extract is s.size), .string ⟨#[]⟩, .bool false, .string ⟨#[]⟩, .bool true]) (by simp [results, Try.results10, go_sem]) rfl ⟨neg, s.extract is s.size, ⟨#[]⟩, false, ⟨#[]⟩, true, rfl, by rw [HN.out]; exact ⟨rfl, rfl, HX.out, rfl, rfl, rfl⟩, _, rfl⟩
    · as_aux_lemma =>
      have HA := hideIt hA
      clear hA
      by_cases hlt : k < s.size
      · have HL := hideIt (list_at s k hlt)
        by_cases hc : s[k] = 46
        · have q45 : ((s[k].toNat : Int) == 45) = false := by rw [hc]; rfl
          have q43 : ((s[k].toNat : Int) == 43) = false := by rw [hc]; rfl
          have q46 : ((s[k].toNat : Int) == 46) = true := by rw [hc]; rfl
          have q101 : ((s[k].toNat : Int) == 101) = false := by rw [hc]; rfl
          have q69 : ((s[k].toNat : Int) == 69) = false := by rw [hc]; rfl
          have q48 : ((s[k].toNat : Int) == 48) = false := by rw [hc]; rfl
          have o1 : (s[k].toNat : Int) < 48 := by rw [hc]; decide
          have o2 : (s[k].toNat : Int) ≤ 57 := by rw [hc]; decide
          have HD : Hid (isD s[k] = false) := by show _ = _; rw [hc]; rfl
          have HC := hideIt hc
          clear hc
          have HV : Hid (AInv loose s.data.toList (k + 1) 4 neg false false is k fs fe es) := AInv.mk4 (by rw [HA.out, HL.out, HC.out, res3_dot]) (by omega) (by omega)
          clear HA HL HD
          go_wp2
          go_round
          case rel => exact ⟨k + 1, 4, neg, false, false, is, k, fs, fe, es, by omega, by omega, by omega, by omega, by omega, by omega, rfl, rfl, rfl, rfl, rfl, rfl, rfl, rfl, rfl, by go_num, HV⟩
          case measure => simp [intOf]; omega
        · have N46 : Hid (s[k] ≠ 46) := hc
          have q46 : ((s[k].toNat : Int) == 46) = false := neB (n := 46) (by decide) hc
          clear hc
          by_cases hc : s[k] = 101
          · have q45 : ((s[k].toNat : Int) == 45) = false := by rw [hc]; rfl
            have q43 : ((s[k].toNat : Int) == 43) = false := by rw [hc]; rfl
            have q46 : ((s[k].toNat : Int) == 46) = false := by rw [hc]; rfl
            have q101 : ((s[k].toNat : Int) == 101) = true := by rw [hc]; rfl
            have q69 : ((s[k].toNat : Int) == 69) = false := by rw [hc]; rfl
            have q48 : ((s[k].toNat : Int) == 48) = false := by rw [hc]; rfl
            have o1 : 48 ≤ (s[k].toNat : Int) := by rw [hc]; decide
            have o2 : 57 < (s[k].toNat : Int) := by rw [hc]; decide
            have HD : Hid (isD s[k] = false) := by show _ = _; rw [hc]; rfl
            have HC := hideIt hc
            clear hc
            have HV : Hid (AInv loose s.data.toList (k + 1) 6 neg false false is k fs fe es) := AInv.mk6 (by rw [HA.out, HL.out, res3_mark _ _ _ _ (by rw [HC.out]; decide)]; rfl) (by omega) (by omega) (fun h => by cases h)
            clear HA HL HD
            go_wp2
            go_round
            case rel => exact ⟨k + 1, 6, neg, false, false, is, k, fs, fe, es, by omega, by omega, by omega, by omega, by omega, by omega, rfl, rfl, rfl, rfl, rfl, rfl, rfl, rfl, rfl, by go_num, HV⟩
            case measure => simp [intOf]; omega
          · have N101 : Hid (s[k] ≠ 101) := hc
            have q101 : ((s[k].toNat : Int) == 101) = false := neB (n := 101) (by decide) hc
            clear hc
            by_cases hc : s[k] = 69
            · have q45 : ((s[k].toNat : Int) == 45) = false := by rw [hc]; rfl
              have q43 : ((s[k].toNat : Int) == 43) = false := by rw [hc]; rfl
              have q46 : ((s[k].toNat : Int) == 46) = false := by rw [hc]; rfl
              have q101 : ((s[k].toNat : Int) == 101) = false := by rw [hc]; rfl
              have q69 : ((s[k].toNat : Int) == 69) = true := by rw [hc]; rfl
              have q48 : ((s[k].toNat : Int) == 48) = false := by rw [hc]; rfl
              have o1 : 48 ≤ (s[k].toNat : Int) := by rw [hc]; decide
              have o2 : 57 < (s[k].toNat : Int) := by rw [hc]; decide
              have HD : Hid (isD s[k] = false) := by show _ = _; rw [hc]; rfl
              have HC := hideIt hc
              clear hc
              have HV : Hid (AInv loose s.data.toList (k + 1) 6 neg false false is k fs fe es) := AInv.mk6 (by rw [HA.out, HL.out, res3_mark _ _ _ _ (by rw [HC.out]; decide)]; rfl) (by omega) (by omega) (fun h => by cases h)
              clear HA HL HD
              go_wp2
              go_round
              case rel => exact ⟨k + 1, 6, neg, false, false, is, k, fs, fe, es, by omega, by omega, by omega, by omega, by omega, by omega, rfl, rfl, rfl, rfl, rfl, rfl, rfl, rfl, rfl, by go_num, HV⟩
              case measure => simp [intOf]; omega
            · have N69 : Hid (s[k] ≠ 69) := hc
              have q69 : ((s[k].toNat : Int) == 69) = false := neB (n := 69) (by decide) hc
              clear hc
              have NE : Hid (¬ (s[k] = 101 ∨ s[k] = 69)) := fun h => h.elim N101.out N69.out
              by_cases hd : 48 ≤ (s[k].toNat : Int) ∧ (s[k].toNat : Int) ≤ 57
              · have HD : Hid (isD s[k] = true) := (isD_iff _).2 hd
                obtain ⟨o1, o2⟩ := hd
                have HV : Hid (AInv loose s.data.toList (k + 1) 3 neg false false is ie fs fe es) := AInv.mk3 (by rw [HA.out, HL.out, res3_digit _ _ _ _ HD.out, sub_snoc (by omega) HL.out]) (by omega)
                clear HA HL HD
                go_wp2
                go_round
                case rel => exact ⟨k + 1, 3, neg, false, false, is, ie, fs, fe, es, by omega, by omega, by omega, by omega, by omega, by omega, rfl, rfl, rfl, rfl, rfl, rfl, rfl, rfl, rfl, by go_num, HV⟩
                case measure => simp [intOf]; omega
              · have HD : Hid (isD s[k] = false) := isD_false _ hd
                by_cases o1 : (s[k].toNat : Int) < 48
                · clear hd
                  have HN : Hid (scan loose s.data.toList = none) := by rw [HA.out, HL.out]; exact res3_other _ _ _ _ HD.out N46.out NE.out
                  clear HA HL HD
                  go_wp2
                  all_goals exact bodyPost_ret (v := .tuple #[.bool false, .string ⟨#[]⟩, .string ⟨#[]⟩, .bool false, .string ⟨#[]⟩, .bool false]) (by simp [results, Try.results10, go_sem]) rfl ⟨false, ⟨#[]⟩, ⟨#[]⟩, false, ⟨#[]⟩, false, rfl, by rw [HN.out]; rfl, 0, rfl⟩
                · have o2 : 57 < (s[k].toNat : Int) := by omega
                  have o1' : 48 ≤ (s[k].toNat : Int) := by omega
                  clear hd o1
                  have HN : Hid (scan loose s.data.toList = none) := by rw [HA.out, HL.out]; exact res3_other _ _ _ _ HD.out N46.out NE.out
                  clear HA HL HD
                  go_wp2
                  all_goals exact bodyPost_ret (v := .tuple #[.bool false, .string ⟨#[]⟩, .string ⟨#[]⟩, .bool false, .string ⟨#[]⟩, .bool false]) (by simp [results, Try.results10, go_sem]) rfl ⟨false, ⟨#[]⟩, ⟨#[]⟩, false, ⟨#[]⟩, false, rfl, by rw [HN.out]; rfl, 0, rfl⟩
      · have hkn : k = s.size := by omega
        have HE : Hid (s.data.toList.drop k = []) := List.drop_of_length_le (by rw [size_list]; omega)
        have HN : Hid (scan loose s.data.toList = some ⟨neg, sub s.data.toList is k, [], false, []⟩) := by show _ = _; rw [HA.out, HE.out, res3_nil]
        have HX : Hid (s.extract is s.size = str' (sub s.data.toList is k)) := by show _ = _; rw [Lib.extract_eq, ← hkn]; rfl
        have hik2 : (is : Int) ≤ (s.size : Int) := by omega
        clear HA HE hkn
        go_wp2
        go_quiet (fail)
        go_wp2
        exact bodyPost_ret (v := .tuple #[.bool neg, .string (s.extract is s.size), .string ⟨#[]⟩, .bool false, .string ⟨#[]⟩, .bool true]) (by simp [results, Try.results10, go_sem]) rfl ⟨neg, s.extract is s.size, ⟨#[]⟩, false, ⟨#[]⟩, true, rfl, by rw [HN.out]; exact ⟨rfl, rfl, HX.out, rfl, rfl, rfl⟩, _, rfl⟩
    · as_aux_lemma =>
      have HA := hideIt hA
      clear hA
      by_cases hlt : k < s.size
      · have HL := hideIt (list_at s k hlt)
        by_cases hd : 48 ≤ (s[k].toNat : Int) ∧ (s[k].toNat : Int) ≤ 57
        · have HD : Hid (isD s[k] = true) := (isD_iff _).2 hd
          obtain ⟨o1, o2⟩ := hd
          have HV : Hid (AInv loose s.data.toList (k + 1) 5 neg false true is ie k fe es) := AInv.mk5 (by rw [HA.out, HL.out, res4_digit _ _ _ HD.out, sub_one HL.out]) (by omega) (by omega) (by omega)
          clear HA HL HD
          go_wp2
          go_round
          case rel => exact ⟨k + 1, 5, neg, false, true, is, ie, k, fe, es, by omega, by omega, by omega, by omega, by omega, by omega, rfl, rfl, rfl, rfl, rfl, rfl, rfl, rfl, rfl, by go_num, HV⟩
          case measure => simp [intOf]; omega
        · have HD : Hid (isD s[k] = false) := isD_false _ hd
          by_cases o1 : (s[k].toNat : Int) < 48
          · clear hd
            have HN : Hid (scan loose s.data.toList = none) := by rw [HA.out, HL.out]; exact res4_other _ _ _ HD.out
            clear HA HL HD
            go_wp2
            all_goals exact bodyPost_ret (v := .tuple #[.bool false, .string ⟨#[]⟩, .string ⟨#[]⟩, .bool false, .string ⟨#[]⟩, .bool false]) (by simp [results, Try.results10, go_sem]) rfl ⟨false, ⟨#[]⟩, ⟨#[]⟩, false, ⟨#[]⟩, false, rfl, by rw [HN.out]; rfl, 0, rfl⟩
          · have o2 : 57 < (s[k].toNat : Int) := by omega
            have o1' : 48 ≤ (s[k].toNat : Int) := by omega
            clear hd o1
            have HN : Hid (scan loose s.data.toList = none) := by rw [HA.out, HL.out]; exact res4_other _ _ _ HD.out
            clear HA HL HD
            go_wp2
            all_goals exact bodyPost_ret (v := .tuple #[.bool false, .string ⟨#[]⟩, .string ⟨#[]⟩, .bool false, .string ⟨#[]⟩, .bool false]) (by simp [results, Try.results10, go_sem]) rfl ⟨false, ⟨#[]⟩, ⟨#[]⟩, false, ⟨#[]⟩, false, rfl, by rw [HN.out]; rfl, 0, rfl⟩
      · have hkn : k = s.size := by omega
        have HE : Hid (s.data.toList.drop k = []) := List.drop_of_length_le (by rw [size_list]; omega)
        have HN : Hid (scan loose s.data.toList = none) := by show _ = _; rw [HA.out, HE.out, res4_nil]
        clear HA HE hkn
        go_wp2
        exact bodyPost_ret (v := .tuple #[.bool false, .string ⟨#[]⟩, .string ⟨#[]⟩, .bool false, .string ⟨#[]⟩, .bool false]) (by simp [results, Try.results10, go_sem]) rfl ⟨false, ⟨#[]⟩, ⟨#[]⟩, false, ⟨#[]⟩, false, rfl, by rw [HN.out]; rfl, 0, rfl⟩
    · as_aux_lemma =>
      have HA := hideIt hA
      clear hA
      by_cases hlt : k < s.size
      · have HL := hideIt (list_at s k hlt)
        by_cases hc : s[k] = 101
        · have q45 : ((s[k].toNat : Int) == 45) = false := by rw [hc]; rfl
          have q43 : ((s[k].toNat : Int) == 43) = false := by rw [hc]; rfl
          have q46 : ((s[k].toNat : Int) == 46) = false := by rw [hc]; rfl
          have q101 : ((s[k].toNat : Int) == 101) = true := by rw [hc]; rfl
          have q69 : ((s[k].toNat : Int) == 69) = false := by rw [hc]; rfl
          have q48 : ((s[k].toNat : Int) == 48) = false := by rw [hc]; rfl
          have o1 : 48 ≤ (s[k].toNat : Int) := by rw [hc]; decide
          have o2 : 57 < (s[k].toNat : Int) := by rw [hc]; decide
          have HD : Hid (isD s[k] = false) := by show _ = _; rw [hc]; rfl
          have HC := hideIt hc
          clear hc
          have HV : Hid (AInv loose s.data.toList (k + 1) 6 neg false true is ie fs k es) := AInv.mk6 (by rw [HA.out, HL.out, res5_mark _ _ _ _ HD.out (by rw [HC.out]; decide)]; rfl) (by omega) (by omega) (fun _ => ⟨by omega, by omega⟩)
          clear HA HL HD
          go_wp2
          go_round
          case rel => exact ⟨k + 1, 6, neg, false, true, is, ie, fs, k, es, by omega, by omega, by omega, by omega, by omega, by omega, rfl, rfl, rfl, rfl, rfl, rfl, rfl, rfl, rfl, by go_num, HV⟩
          case measure => simp [intOf]; omega
        · have N101 : Hid (s[k] ≠ 101) := hc
          have q101 : ((s[k].toNat : Int) == 101) = false := neB (n := 101) (by decide) hc
          clear hc
          by_cases hc : s[k] = 69
          · have q45 : ((s[k].toNat : Int) == 45) = false := by rw [hc]; rfl
            have q43 : ((s[k].toNat : Int) == 43) = false := by rw [hc]; rfl
            have q46 : ((s[k].toNat : Int) == 46) = false := by rw [hc]; rfl
            have q101 : ((s[k].toNat : Int) == 101) = false := by rw [hc]; rfl
            have q69 : ((s[k].toNat : Int) == 69) = true := by rw [hc]; rfl
            have q48 : ((s[k].toNat : Int) == 48) = false := by rw [hc]; rfl
            have o1 : 48 ≤ (s[k].toNat : Int) := by rw [hc]; decide
            have o2 : 57 < (s[k].toNat : Int) := by rw [hc]; decide
            have HD : Hid (isD s[k] = false) := by show _ = _; rw [hc]; rfl
            have HC := hideIt hc
            clear hc
            have HV : Hid (AInv loose s.data.toList (k + 1) 6 neg false true is ie fs k es) := AInv.mk6 (by rw [HA.out, HL.out, res5_mark _ _ _ _ HD.out (by rw [HC.out]; decide)]; rfl) (by omega) (by omega) (fun _ => ⟨by omega, by omega⟩)
            clear HA HL HD
            go_wp2
            go_round
            case rel => exact ⟨k + 1, 6, neg, false, true, is, ie, fs, k, es, by omega, by omega, by omega, by omega, by omega, by omega, rfl, rfl, rfl, rfl, rfl, rfl, rfl, rfl, rfl, by go_num, HV⟩
            case measure => simp [intOf]; omega
          · have N69 : Hid (s[k] ≠ 69) := hc
            have q69 : ((s[k].toNat : Int) == 69) = false := neB (n := 69) (by decide) hc
            clear hc
            have NE : Hid (¬ (s[k] = 101 ∨ s[k] = 69)) := fun h => h.elim N101.out N69.out
            by_cases hd : 48 ≤ (s[k].toNat : Int) ∧ (s[k].toNat : Int) ≤ 57
            · have HD : Hid (isD s[k] = true) := (isD_iff _).2 hd
              obtain ⟨o1, o2⟩ := hd
              have HV : Hid (AInv loose s.data.toList (k + 1) 5 neg false true is ie fs fe es) := AInv.mk5 (by rw [HA.out, HL.out, res5_digit _ _ _ _ HD.out, sub_snoc (by omega) HL.out]) (by omega) (by omega) (by omega)
              clear HA HL HD
              go_wp2
              go_round
              case rel => exact ⟨k + 1, 5, neg, false, true, is, ie, fs, fe, es, by omega, by omega, by omega, by omega, by omega, by omega, rfl, rfl, rfl, rfl, rfl, rfl, rfl, rfl, rfl, by go_num, HV⟩
              case measure => simp [intOf]; omega
            · have HD : Hid (isD s[k] = false) := isD_false _ hd
              by_cases o1 : (s[k].toNat : Int) < 48
              · clear hd
                have HN : Hid (scan loose s.data.toList = none) := by rw [HA.out, HL.out]; exact res5_other _ _ _ _ HD.out NE.out
                clear HA HL HD
                go_wp2
                all_goals exact bodyPost_ret (v := .tuple #[.bool false, .string ⟨#[]⟩, .string ⟨#[]⟩, .bool false, .string ⟨#[]⟩, .bool false]) (by simp [results, Try.results10, go_sem]) rfl ⟨false, ⟨#[]⟩, ⟨#[]⟩, false, ⟨#[]⟩, false, rfl, by rw [HN.out]; rfl, 0, rfl⟩
              · have o2 : 57 < (s[k].toNat : Int) := by omega
                have o1' : 48 ≤ (s[k].toNat : Int) := by omega
                clear hd o1
                have HN : Hid (scan loose s.data.toList = none) := by rw [HA.out, HL.out]; exact res5_other _ _ _ _ HD.out NE.out
                clear HA HL HD
                go_wp2
                all_goals exact bodyPost_ret (v := .tuple #[.bool false, .string ⟨#[]⟩, .string ⟨#[]⟩, .bool false, .string ⟨#[]⟩, .bool false]) (by simp [results, Try.results10, go_sem]) rfl ⟨false, ⟨#[]⟩, ⟨#[]⟩, false, ⟨#[]⟩, false, rfl, by rw [HN.out]; rfl, 0, rfl⟩
      · have hkn : k = s.size := by omega
        have HE : Hid (s.data.toList.drop k = []) := List.drop_of_length_le (by rw [size_list]; omega)
        have HN : Hid (scan loose s.data.toList = some ⟨neg, sub s.data.toList is ie, sub s.data.toList fs k, false, []⟩) := by show _ = _; rw [HA.out, HE.out, res5_nil]
        have HX : Hid (s.extract is ie = str' (sub s.data.toList is ie)) := Lib.extract_eq s is ie
        have HY : Hid (s.extract fs s.size = str' (sub s.data.toList fs k)) := by show _ = _; rw [Lib.extract_eq, ← hkn]; rfl
        have hik2 : (is : Int) ≤ (ie : Int) := by omega
        have hik3 : (ie : Int) ≤ (s.size : Int) := by omega
        have hik4 : (fs : Int) ≤ (s.size : Int) := by omega
        clear HA HE hkn
        go_wp2
        go_quiet (fail)
        go_wp2
        exact bodyPost_ret (v := .tuple #[.bool neg, .string (s.extract is ie), .string (s.extract fs s.size), .bool false, .string ⟨#[]⟩, .bool true]) (by simp [results, Try.results10, go_sem]) rfl ⟨neg, s.extract is ie, s.extract fs s.size, false, ⟨#[]⟩, true, rfl, by rw [HN.out]; exact ⟨rfl, rfl, HX.out, HY.out, rfl, rfl⟩, _, rfl⟩
    · as_aux_lemma =>
      have HA := hideIt hA
      clear hA
      have HF : Hid (hf = true → fs ≤ fe ∧ fe ≤ k + 1) := fun h => by have := hF h; omega
      have HF0 := hideIt hF
      clear hF
      by_cases hlt : k < s.size
      · have HL := hideIt (list_at s k hlt)
        by_cases hc : s[k] = 43
        · have q45 : ((s[k].toNat : Int) == 45) = false := by rw [hc]; rfl
          have q43 : ((s[k].toNat : Int) == 43) = true := by rw [hc]; rfl
          have q46 : ((s[k].toNat : Int) == 46) = false := by rw [hc]; rfl
          have q101 : ((s[k].toNat : Int) == 101) = false := by rw [hc]; rfl
          have q69 : ((s[k].toNat : Int) == 69) = false := by rw [hc]; rfl
          have q48 : ((s[k].toNat : Int) == 48) = false := by rw [hc]; rfl
          have o1 : (s[k].toNat : Int) < 48 := by rw [hc]; decide
          have o2 : (s[k].toNat : Int) ≤ 57 := by rw [hc]; decide
          have HD : Hid (isD s[k] = false) := by show _ = _; rw [hc]; rfl
          have HC := hideIt hc
          clear hc
          have HV : Hid (AInv loose s.data.toList (k + 1) 7 neg false hf is ie fs fe es) := AInv.mk7 (by rw [HA.out, HL.out, HC.out, res6_plus]) (by omega) (by omega) (HF.out)
          clear HA HL HD
          go_wp2
          go_round
          case rel => exact ⟨k + 1, 7, neg, false, hf, is, ie, fs, fe, es, by omega, by omega, by omega, by omega, by omega, by omega, rfl, rfl, rfl, rfl, rfl, rfl, rfl, rfl, rfl, by go_num, HV⟩
          case measure => simp [intOf]; omega
        · have N43 : Hid (s[k] ≠ 43) := hc
          have q43 : ((s[k].toNat : Int) == 43) = false := neB (n := 43) (by decide) hc
          clear hc
          by_cases hc : s[k] = 45
          · have q45 : ((s[k].toNat : Int) == 45) = true := by rw [hc]; rfl
            have q43 : ((s[k].toNat : Int) == 43) = false := by rw [hc]; rfl
            have q46 : ((s[k].toNat : Int) == 46) = false := by rw [hc]; rfl
            have q101 : ((s[k].toNat : Int) == 101) = false := by rw [hc]; rfl
            have q69 : ((s[k].toNat : Int) == 69) = false := by rw [hc]; rfl
            have q48 : ((s[k].toNat : Int) == 48) = false := by rw [hc]; rfl
            have o1 : (s[k].toNat : Int) < 48 := by rw [hc]; decide
            have o2 : (s[k].toNat : Int) ≤ 57 := by rw [hc]; decide
            have HD : Hid (isD s[k] = false) := by show _ = _; rw [hc]; rfl
            have HC := hideIt hc
            clear hc
            have HV : Hid (AInv loose s.data.toList (k + 1) 7 neg true hf is ie fs fe es) := AInv.mk7 (by rw [HA.out, HL.out, HC.out, res6_minus]) (by omega) (by omega) (HF.out)
            clear HA HL HD
            go_wp2
            go_round
            case rel => exact ⟨k + 1, 7, neg, true, hf, is, ie, fs, fe, es, by omega, by omega, by omega, by omega, by omega, by omega, rfl, rfl, rfl, rfl, rfl, rfl, rfl, rfl, rfl, by go_num, HV⟩
            case measure => simp [intOf]; omega
          · have N45 : Hid (s[k] ≠ 45) := hc
            have q45 : ((s[k].toNat : Int) == 45) = false := neB (n := 45) (by decide) hc
            clear hc
            by_cases hd : 48 ≤ (s[k].toNat : Int) ∧ (s[k].toNat : Int) ≤ 57
            · have HD : Hid (isD s[k] = true) := (isD_iff _).2 hd
              obtain ⟨o1, o2⟩ := hd
              have D45 := N45.out
              have D43' := N43.out
              have HV : Hid (AInv loose s.data.toList (k + 1) 8 neg false hf is ie fs fe k) := AInv.mk8 (by rw [HA.out, HL.out, res6_bare _ _ _ D43' D45, res7_digit _ _ _ HD.out, sub_one HL.out]) (by omega) (by omega) (HF.out) (by omega)
              clear HA HL HD
              go_wp2
              go_round
              case rel => exact ⟨k + 1, 8, neg, false, hf, is, ie, fs, fe, k, by omega, by omega, by omega, by omega, by omega, by omega, rfl, rfl, rfl, rfl, rfl, rfl, rfl, rfl, rfl, by go_num, HV⟩
              case measure => simp [intOf]; omega
            · have HD : Hid (isD s[k] = false) := isD_false _ hd
              by_cases o1 : (s[k].toNat : Int) < 48
              · clear hd
                have HN : Hid (scan loose s.data.toList = none) := by rw [HA.out, HL.out, res6_bare _ _ _ N43.out N45.out]; exact res7_other _ _ _ HD.out
                clear HA HL HD
                go_wp2
                all_goals exact bodyPost_ret (v := .tuple #[.bool false, .string ⟨#[]⟩, .string ⟨#[]⟩, .bool false, .string ⟨#[]⟩, .bool false]) (by simp [results, Try.results10, go_sem]) rfl ⟨false, ⟨#[]⟩, ⟨#[]⟩, false, ⟨#[]⟩, false, rfl, by rw [HN.out]; rfl, 0, rfl⟩
              · have o2 : 57 < (s[k].toNat : Int) := by omega
                have o1' : 48 ≤ (s[k].toNat : Int) := by omega
                clear hd o1
                have HN : Hid (scan loose s.data.toList = none) := by rw [HA.out, HL.out, res6_bare _ _ _ N43.out N45.out]; exact res7_other _ _ _ HD.out
                clear HA HL HD
                go_wp2
                all_goals exact bodyPost_ret (v := .tuple #[.bool false, .string ⟨#[]⟩, .string ⟨#[]⟩, .bool false, .string ⟨#[]⟩, .bool false]) (by simp [results, Try.results10, go_sem]) rfl ⟨false, ⟨#[]⟩, ⟨#[]⟩, false, ⟨#[]⟩, false, rfl, by rw [HN.out]; rfl, 0, rfl⟩
      · have hkn : k = s.size := by omega
        have HE : Hid (s.data.toList.drop k = []) := List.drop_of_length_le (by rw [size_list]; omega)
        have HN : Hid (scan loose s.data.toList = none) := by show _ = _; rw [HA.out, HE.out, res6_nil]
        clear HA HE hkn
        go_wp2
        exact bodyPost_ret (v := .tuple #[.bool false, .string ⟨#[]⟩, .string ⟨#[]⟩, .bool false, .string ⟨#[]⟩, .bool false]) (by simp [results, Try.results10, go_sem]) rfl ⟨false, ⟨#[]⟩, ⟨#[]⟩, false, ⟨#[]⟩, false, rfl, by rw [HN.out]; rfl, 0, rfl⟩
    · as_aux_lemma =>
      have HA := hideIt hA
      clear hA
      have HF : Hid (hf = true → fs ≤ fe ∧ fe ≤ k + 1) := fun h => by have := hF h; omega
      have HF0 := hideIt hF
      clear hF
      by_cases hlt : k < s.size
      · have HL := hideIt (list_at s k hlt)
        by_cases hd : 48 ≤ (s[k].toNat : Int) ∧ (s[k].toNat : Int) ≤ 57
        · have HD : Hid (isD s[k] = true) := (isD_iff _).2 hd
          obtain ⟨o1, o2⟩ := hd
          have HV : Hid (AInv loose s.data.toList (k + 1) 8 neg en hf is ie fs fe k) := AInv.mk8 (by rw [HA.out, HL.out, res7_digit _ _ _ HD.out, sub_one HL.out]) (by omega) (by omega) (HF.out) (by omega)
          clear HA HL HD
          go_wp2
          go_round
          case rel => exact ⟨k + 1, 8, neg, en, hf, is, ie, fs, fe, k, by omega, by omega, by omega, by omega, by omega, by omega, rfl, rfl, rfl, rfl, rfl, rfl, rfl, rfl, rfl, by go_num, HV⟩
          case measure => simp [intOf]; omega
        · have HD : Hid (isD s[k] = false) := isD_false _ hd
          by_cases o1 : (s[k].toNat : Int) < 48
          · clear hd
            have HN : Hid (scan loose s.data.toList = none) := by rw [HA.out, HL.out]; exact res7_other _ _ _ HD.out
            clear HA HL HD
            go_wp2
            all_goals exact bodyPost_ret (v := .tuple #[.bool false, .string ⟨#[]⟩, .string ⟨#[]⟩, .bool false, .string ⟨#[]⟩, .bool false]) (by simp [results, Try.results10, go_sem]) rfl ⟨false, ⟨#[]⟩, ⟨#[]⟩, false, ⟨#[]⟩, false, rfl, by rw [HN.out]; rfl, 0, rfl⟩
          · have o2 : 57 < (s[k].toNat : Int) := by omega
            have o1' : 48 ≤ (s[k].toNat : Int) := by omega
            clear hd o1
            have HN : Hid (scan loose s.data.toList = none) := by rw [HA.out, HL.out]; exact res7_other _ _ _ HD.out
            clear HA HL HD
            go_wp2
            all_goals exact bodyPost_ret (v := .tuple #[.bool false, .string ⟨#[]⟩, .string ⟨#[]⟩, .bool false, .string ⟨#[]⟩, .bool false]) (by simp [results, Try.results10, go_sem]) rfl ⟨false, ⟨#[]⟩, ⟨#[]⟩, false, ⟨#[]⟩, false, rfl, by rw [HN.out]; rfl, 0, rfl⟩
      · have hkn : k = s.size := by omega
        have HE : Hid (s.data.toList.drop k = []) := List.drop_of_length_le (by rw [size_list]; omega)
        have HN : Hid (scan loose s.data.toList = none) := by show _ = _; rw [HA.out, HE.out, res7_nil]
        clear HA HE hkn
        go_wp2
        exact bodyPost_ret (v := .tuple #[.bool false, .string ⟨#[]⟩, .string ⟨#[]⟩, .bool false, .string ⟨#[]⟩, .bool false]) (by simp [results, Try.results10, go_sem]) rfl ⟨false, ⟨#[]⟩, ⟨#[]⟩, false, ⟨#[]⟩, false, rfl, by rw [HN.out]; rfl, 0, rfl⟩
    · as_aux_lemma =>
      have HA := hideIt hA
      clear hA
      have HF : Hid (hf = true → fs ≤ fe ∧ fe ≤ k + 1) := fun h => by have := hF h; omega
      have HF0 := hideIt hF
      clear hF
      by_cases hlt : k < s.size
      · have HL := hideIt (list_at s k hlt)
        by_cases hd : 48 ≤ (s[k].toNat : Int) ∧ (s[k].toNat : Int) ≤ 57
        · have HD : Hid (isD s[k] = true) := (isD_iff _).2 hd
          obtain ⟨o1, o2⟩ := hd
          have HV : Hid (AInv loose s.data.toList (k + 1) 8 neg en hf is ie fs fe es) := AInv.mk8 (by rw [HA.out, HL.out, res8_digit _ _ _ _ HD.out, sub_snoc (by omega) HL.out]) (by omega) (by omega) (HF.out) (by omega)
          clear HA HL HD
          go_wp2
          go_round
          case rel => exact ⟨k + 1, 8, neg, en, hf, is, ie, fs, fe, es, by omega, by omega, by omega, by omega, by omega, by omega, rfl, rfl, rfl, rfl, rfl, rfl, rfl, rfl, rfl, by go_num, HV⟩
          case measure => simp [intOf]; omega
        · have HD : Hid (isD s[k] = false) := isD_false _ hd
          by_cases o1 : (s[k].toNat : Int) < 48
          · clear hd
            have HN : Hid (scan loose s.data.toList = none) := by rw [HA.out, HL.out]; exact res8_other _ _ _ _ HD.out
            clear HA HL HD
            go_wp2
            all_goals exact bodyPost_ret (v := .tuple #[.bool false, .string ⟨#[]⟩, .string ⟨#[]⟩, .bool false, .string ⟨#[]⟩, .bool false]) (by simp [results, Try.results10, go_sem]) rfl ⟨false, ⟨#[]⟩, ⟨#[]⟩, false, ⟨#[]⟩, false, rfl, by rw [HN.out]; rfl, 0, rfl⟩
          · have o2 : 57 < (s[k].toNat : Int) := by omega
            have o1' : 48 ≤ (s[k].toNat : Int) := by omega
            clear hd o1
            have HN : Hid (scan loose s.data.toList = none) := by rw [HA.out, HL.out]; exact res8_other _ _ _ _ HD.out
            clear HA HL HD
            go_wp2
            all_goals exact bodyPost_ret (v := .tuple #[.bool false, .string ⟨#[]⟩, .string ⟨#[]⟩, .bool false, .string ⟨#[]⟩, .bool false]) (by simp [results, Try.results10, go_sem]) rfl ⟨false, ⟨#[]⟩, ⟨#[]⟩, false, ⟨#[]⟩, false, rfl, by rw [HN.out]; rfl, 0, rfl⟩
      · have hkn : k = s.size := by omega
        have HE : Hid (s.data.toList.drop k = []) := List.drop_of_length_le (by rw [size_list]; omega)
        have HX : Hid (s.extract is ie = str' (sub s.data.toList is ie)) := Lib.extract_eq s is ie
        have HY : Hid (s.extract es s.size = str' (sub s.data.toList es k)) := by show _ = _; rw [Lib.extract_eq, ← hkn]; rfl
        have hik2 : (is : Int) ≤ (ie : Int) := by omega
        have hik3 : (ie : Int) ≤ (s.size : Int) := by omega
        have hik4 : (es : Int) ≤ (s.size : Int) := by omega
        have HN : Hid (scan loose s.data.toList = some ⟨neg, sub s.data.toList is ie, frOf hf s.data.toList fs fe, en, sub s.data.toList es k⟩) := by show _ = _; rw [HA.out, HE.out, res8_nil]
        clear HA HE hkn HF
        cases hf
        · clear HF0
          go_wp2
          go_quiet (fail)
          go_wp2
          exact bodyPost_ret (v := .tuple #[.bool neg, .string (s.extract is ie), .string ⟨#[]⟩, .bool en, .string (s.extract es s.size), .bool true]) (by simp [results, Try.results10, go_sem]) rfl ⟨neg, s.extract is ie, ⟨#[]⟩, en, s.extract es s.size, true, rfl, by rw [HN.out]; exact ⟨rfl, rfl, HX.out, rfl, rfl, HY.out⟩, _, rfl⟩
        · obtain ⟨hf1, hf2⟩ := HF0.out rfl
          have hf3 : (fs : Int) ≤ (fe : Int) := by omega
          have hf4 : (fe : Int) ≤ (s.size : Int) := by omega
          have HW : Hid (s.extract fs fe = str' (sub s.data.toList fs fe)) := Lib.extract_eq s fs fe
          clear HF0
          go_wp2
          go_quiet (fail)
          go_wp2
          exact bodyPost_ret (v := .tuple #[.bool neg, .string (s.extract is ie), .string (s.extract fs fe), .bool en, .string (s.extract es s.size), .bool true]) (by simp [results, Try.results10, go_sem]) rfl ⟨neg, s.extract is ie, s.extract fs fe, en, s.extract es s.size, true, rfl, by rw [HN.out]; exact ⟨rfl, rfl, HX.out, HW.out, rfl, HY.out⟩, _, rfl⟩
end Go.Proofs.Qxb6603961a
