/- scanNumber walks the grammar. -/
import Derived.Test.Qxb6603961aBase
import Derived.BigQuiet
import Derived.Deep.QuietTactic
import Derived.Deep.DeepCutAuto
namespace Go.Proofs.Qxb6603961a
open Go.RowKit
set_option linter.unusedVariables false

def numBox (neg : Bool) (a b : ByteArray) (en : Bool) (c : ByteArray) : Array Value := #[.bool neg, .string a, .string b, .bool en, .string c]
def str (l : List UInt8) : ByteArray := ⟨l.toArray⟩
def noStr : ByteArray := ⟨#[]⟩

/-- What the answer (n, ok) says of the road: ok tells whether the grammar takes it; if so the fields are its parts. -/
def Says (o : Option Num) (neg : Bool) (a b : ByteArray) (en : Bool) (c : ByteArray) (ok : Bool) : Prop :=
  match o with
  | none => ok = false
  | some n => ok = true ∧ neg = n.neg ∧ a = str n.int ∧ b = str n.frac ∧ en = n.en ∧ c = str n.ex

/-- The two boxes of scanNumber: the result's, the number's. -/
structure Bx (w wc : World) (n : Num) : Prop where
  res : wc.heap[w.heap.size]? = some (.cells (numBox false noStr noStr false noStr) 42 (0, 0))
  num : wc.heap[w.heap.size + 1]? = some (.cells (numBox n.neg (str n.int) (str n.frac) n.en (str n.ex)) 42 (0, 0))
  bel : Below w.heap.size w wc

theorem heap_setCell_at {w : World} {s j : Nat} {cs : Array Value} {t : TypeId} {z : Nat × Nat} (u : Value) (h : w.heap[s]? = some (.cells cs t z)) : (w.setCell ⟨s, j, none⟩ u).heap[s]? = some (.cells (cs.setIfInBounds j u) t z) := by
  have hlt := lt_of_heap h
  have h' : w.heap[s] = .cells cs t z := by simpa [Array.getElem?_eq_getElem hlt] using h
  show (w.heap.modify s _)[s]? = _
  rw [Array.getElem?_eq_getElem (by simpa using hlt), Array.getElem_modify_self, h']
  rfl
section
variable {w wc : World} {n : Num}
theorem Bx.cell (h : Bx w wc n) (j : Nat) : wc.cell? ⟨w.heap.size + 1, j, none⟩ = (numBox n.neg (str n.int) (str n.frac) n.en (str n.ex))[j]? := by simp [World.cell?, h.num]
theorem Bx.free (h : Bx w wc n) (j : Nat) : wc.frozen? ⟨w.heap.size + 1, j, none⟩ = false := by simp [World.frozen?, h.num]
theorem Bx.rcell (h : Bx w wc n) (j : Nat) : wc.cell? ⟨w.heap.size, j, none⟩ = (numBox false noStr noStr false noStr)[j]? := by simp [World.cell?, h.res]
theorem Bx.rfree (h : Bx w wc n) (j : Nat) : wc.frozen? ⟨w.heap.size, j, none⟩ = false := by simp [World.frozen?, h.res]
theorem Bx.set (h : Bx w wc n) (j : Nat) (u : Value) (m : Num) (hm : (numBox n.neg (str n.int) (str n.frac) n.en (str n.ex)).setIfInBounds j u = numBox m.neg (str m.int) (str m.frac) m.en (str m.ex)) : Bx w (wc.setCell ⟨w.heap.size + 1, j, none⟩ u) m := by
  refine ⟨?_, ?_, h.bel.setCell (by show w.heap.size ≤ w.heap.size + 1; omega) _⟩
  · rw [Below.heap_setCell _ _ _ _ (show w.heap.size ≠ w.heap.size + 1 by omega)]; exact h.res
  · rw [← hm]; exact heap_setCell_at u h.num
theorem Bx.drew (h : Bx w wc n) : Bx w wc.drew n := ⟨h.res, h.num, h.bel.drew⟩
theorem Bx.drewN (h : Bx w wc n) (k : Nat) : Bx w (wc.drewN k) n := ⟨h.res, h.num, below_drewN h.bel k⟩
end

theorem cutFrom (s : ByteArray) (i : Nat) : (s.extract i s.size).data.toList = s.data.toList.drop i := by
  rw [Lib.extract_data, List.take_of_length_le (by rw [List.length_drop, size_list]; omega)]
theorem cutTo (s : ByteArray) (i : Nat) : s.extract 0 i = str (s.data.toList.take i) := by rw [Lib.extract_eq]; rfl
theorem cutMid (s : ByteArray) (i j : Nat) : s.extract i j = str ((s.data.toList.drop i).take (j - i)) := Lib.extract_eq s i j
theorem head_at {s : ByteArray} {c : UInt8} {r : List UInt8} (h : s.data.toList = c :: r) : ∃ h0 : 0 < s.size, s[0] = c ∧ s.size = r.length + 1 := by
  have hl : s.size = r.length + 1 := by rw [← size_list, h]; rfl
  refine ⟨by omega, ?_, hl⟩
  have := list_at s 0 (by omega)
  rw [List.drop_zero, h] at this
  simp at this
  exact this.symm

def signB (loose : Bool) (l : List UInt8) : Bool := (l.head? == some 45) || (loose && (l.head? == some 43))

theorem signB_true {loose : Bool} {l : List UInt8} (h : signB loose l = true) : (∃ r, l = 45 :: r) ∨ (∃ r, l = 43 :: r ∧ loose = true) := by
  cases l with
  | nil => simp [signB] at h
  | cons c r =>
    simp [signB] at h
    rcases h with h | ⟨h1, h2⟩
    · exact .inl ⟨r, by rw [h]⟩
    · exact .inr ⟨r, by rw [h2], h1⟩
theorem signB_false {loose : Bool} {l : List UInt8} (h : signB loose l = false) : scan loose l = res1 loose false l := by
  cases l with
  | nil => rw [scan_nil, res1_nil]
  | cons c r =>
    simp [signB] at h
    exact scan_bare loose c r h.1 (fun h' => by have := h.2 h'.2; exact this h'.1)

theorem scanF_other (n : Num) (l : List UInt8) (h : (l.head? == some 46) = false) : scanF n l = scanX n l := by
  cases l with
  | nil => rfl
  | cons c r => simp at h; simp [scanF, h]
theorem head_eq {l : List UInt8} {c : UInt8} (h : (l.head? == some c) = true) : ∃ r, l = c :: r := by
  cases l with
  | nil => simp at h
  | cons x r => simp at h; exact ⟨r, by rw [h]⟩

def intBad (loose : Bool) (l : List UInt8) : Bool := decide (dRun l = 0) || (decide (1 < dRun l) && (l.head? == some 48) && !loose)
theorem intBad_true {loose neg : Bool} {l : List UInt8} (h : intBad loose l = true) : res1 loose neg l = none := by
  unfold res1
  by_cases h0 : dRun l = 0
  · rw [if_pos h0]
  · rw [if_neg h0, if_pos]
    simpa [intBad, h0, and_assoc] using h
theorem intBad_false {loose neg : Bool} {l : List UInt8} (h : intBad loose l = false) : res1 loose neg l = scanF ⟨neg, l.take (dRun l), [], false, []⟩ (l.drop (dRun l)) := by
  unfold res1
  by_cases h0 : dRun l = 0
  · simp [intBad, h0] at h
  · rw [if_neg h0, if_neg]
    · rfl
    · rintro ⟨h1, h2, h3⟩
      simp [intBad, h1, h2, h3] at h

theorem ends15 {N : Nat} {wr : World} {tmps : Array Value} {neg en ok : Bool} {a b c : ByteArray} (hx : wr.heap[N]? = some (.cells (numBox neg a b en c) 42 (0, 0))) (ht : tmps[4]? = some (.pointer (some ⟨N, 0, none⟩))) (h5 : tmps[5]? = some (.bool ok)) :
    (results Try.f15 tmps).run Try.prog wr = .ok (.tuple #[.agg (numBox neg a b en c), .bool ok]) wr := by
  have q0 : wr.cell? ⟨N, 0, none⟩ = some (.bool neg) := by simp [World.cell?, hx, numBox]
  have q1 : wr.cell? ⟨N, 1, none⟩ = some (.string a) := by simp [World.cell?, hx, numBox]
  have q2 : wr.cell? ⟨N, 2, none⟩ = some (.string b) := by simp [World.cell?, hx, numBox]
  have q3 : wr.cell? ⟨N, 3, none⟩ = some (.bool en) := by simp [World.cell?, hx, numBox]
  have q4 : wr.cell? ⟨N, 4, none⟩ = some (.string c) := by simp [World.cell?, hx, numBox]
  simp [results, Try.results15, go_sem, ht, h5, q0, q1, q2, q3, q4, numBox]

/-- The five stores into the result's box. -/
def put5 (w wc : World) (neg : Bool) (a b : ByteArray) (en : Bool) (c : ByteArray) : World :=
  ((((wc.setCell ⟨w.heap.size, 0, none⟩ (.bool neg)).setCell ⟨w.heap.size, 1, none⟩ (.string a)).setCell ⟨w.heap.size, 2, none⟩ (.string b)).setCell ⟨w.heap.size, 3, none⟩ (.bool en)).setCell ⟨w.heap.size, 4, none⟩ (.string c)
theorem put5_box {w wc : World} {n : Num} (h : Bx w wc n) (neg : Bool) (a b : ByteArray) (en : Bool) (c : ByteArray) :
    (put5 w wc neg a b en c).heap[w.heap.size]? = some (.cells (numBox neg a b en c) 42 (0, 0)) ∧ Below w.heap.size w (put5 w wc neg a b en c) :=
  ⟨heap_setCell_at _ (heap_setCell_at _ (heap_setCell_at _ (heap_setCell_at _ (heap_setCell_at _ h.res)))),
   ((((h.bel.setCell (Nat.le_refl _) _).setCell (Nat.le_refl _) _).setCell (Nat.le_refl _) _).setCell (Nat.le_refl _) _).setCell (Nat.le_refl _) _⟩

theorem isEmpty_iff (s : ByteArray) : s.toList.isEmpty = decide (s.data.toList = []) := by
  have h : s.toList = s.data.toList := ByteArray.toList_eq s
  rw [h]; cases s.data.toList <;> rfl
theorem says_end {o : Option Num} {n : Num} {t : ByteArray} (h : o = if t.data.toList = [] then some n else none) : Says o n.neg (str n.int) (str n.frac) n.en (str n.ex) t.toList.isEmpty := by
  rw [h, isEmpty_iff]
  by_cases ht : t.data.toList = []
  · rw [if_pos ht]; exact ⟨by simp [ht], rfl, rfl, rfl, rfl, rfl⟩
  · rw [if_neg ht]; exact by simp [Says, ht]

set_option maxRecDepth 100000 in
set_option maxHeartbeats 4000000 in
theorem scan_any (s : ByteArray) (loose : Bool) (w : World) (hs : s.size ≤ 1048576) :
    Calls Try.prog 15 #[.string s, .bool loose] w fun e w' => ∃ neg a b en c ok, e = .returned (.tuple #[.agg (numBox neg a b en c), .bool ok]) ∧ Says (scan loose s.data.toList) neg a b en c ok ∧ Below w.heap.size w w' := by
  have HB0 : Hid (Bx w ((w.alloc (Obj.cells #[Value.bool false, Value.string { data := #[] }, Value.string { data := #[] }, Value.bool false, Value.string { data := #[] }] 42)).alloc (Obj.cells #[Value.bool false, Value.string { data := #[] }, Value.string { data := #[] }, Value.bool false, Value.string { data := #[] }] 42)) ⟨false, [], [], false, []⟩) := by
    refine ⟨?_, ?_, ((Below.refl _ _).alloc (Nat.le_refl _) _).alloc (by simp) _⟩
    · rw [Below.heap_alloc _ _ _ (by simp)]; exact heap_alloc_new w _
    · have := heap_alloc_new (w.alloc (Obj.cells #[Value.bool false, Value.string { data := #[] }, Value.string { data := #[] }, Value.bool false, Value.string { data := #[] }] 42)) (Obj.cells #[Value.bool false, Value.string { data := #[] }, Value.string { data := #[] }, Value.bool false, Value.string { data := #[] }] 42)
      rw [show (w.alloc (Obj.cells #[Value.bool false, Value.string { data := #[] }, Value.string { data := #[] }, Value.bool false, Value.string { data := #[] }] 42)).heap.size = w.heap.size + 1 by simp] at this
      exact this
  go_enter Try.func15, Try.ntmps15
  go_upto_region 3 with fail
  have hB0 := HB0
  generalize (w.alloc (Obj.cells #[Value.bool false, Value.string { data := #[] }, Value.string { data := #[] }, Value.bool false, Value.string { data := #[] }] 42)).alloc (Obj.cells #[Value.bool false, Value.string { data := #[] }, Value.string { data := #[] }, Value.bool false, Value.string { data := #[] }] 42) = w0 at *
  clear HB0
  go_cut [18] (fun v wc => v = .bool (signB loose s.data.toList) ∧ wc = w0)
  case first =>
    clear hB0
    have Hb : Hid (signB loose s.data.toList = ((s.data.toList.head? == some 45) || (loose && (s.data.toList.head? == some 43)))) := rfl
    generalize signB loose s.data.toList = b at *
    cases h1 : (s.data.toList.head? == some 45)
    · cases loose
      · have hb : b = false := by rw [Hb.out, h1]; rfl
        subst hb
        go_wp2_with (go_at_call 18; refine (hasPrefix1 _ _ _ (by omega)).mono ?_; rintro e w' ⟨rfl, rfl⟩)
        go_meet
        case rel => exact ⟨rfl, rfl⟩
      · cases h2 : (s.data.toList.head? == some 43)
        · have hb : b = false := by rw [Hb.out, h1, h2]; rfl
          subst hb
          go_wp2_with (go_at_call 18; refine (hasPrefix1 _ _ _ (by omega)).mono ?_; rintro e w' ⟨rfl, rfl⟩)
          go_meet
          case rel => exact ⟨rfl, rfl⟩
        · have hb : b = true := by rw [Hb.out, h1, h2]; rfl
          subst hb
          go_wp2_with (go_at_call 18; refine (hasPrefix1 _ _ _ (by omega)).mono ?_; rintro e w' ⟨rfl, rfl⟩)
          go_meet
          case rel => exact ⟨rfl, rfl⟩
    · have hb : b = true := by rw [Hb.out, h1]; rfl
      subst hb
      go_wp2_with (go_at_call 18; refine (hasPrefix1 _ _ _ (by omega)).mono ?_; rintro e w' ⟨rfl, rfl⟩)
      go_meet
      case rel => exact ⟨rfl, rfl⟩
  case rest =>
    obtain ⟨rfl, rfl⟩ := hcut
    go_upto_if 18 with fail
    go_cut [7] (fun v wd => ∃ s1 neg, v = .string s1 ∧ scan loose s.data.toList = res1 loose neg s1.data.toList ∧ s1.size ≤ 1048576 ∧ Bx w wd ⟨neg, [], [], false, []⟩)
    case first =>
      have c0 : wc.cell? ⟨w.heap.size + 1, 0, none⟩ = some (.bool false) := hB0.cell 0
      have f0 := hB0.free 0
      cases hb : signB loose s.data.toList
      · have H := hideIt (signB_false hb)
        go_wp2
        go_meet
        case rel => exact ⟨s, false, rfl, H.out, hs, hB0⟩
      · rcases signB_true hb with ⟨r, hr⟩ | ⟨r, hr, hl⟩
        · obtain ⟨h0, hc, hsz⟩ := head_at hr
          have hq : ((s[0].toNat : Int) == 45) = true := by rw [hc]; rfl
          have H : Hid (scan loose s.data.toList = res1 loose true (s.extract 1 s.size).data.toList) := by
            show _ = _
            rw [cutFrom, hr, scan_minus]; rfl
          clear hr hc hb hsz
          go_wp2
          go_meet
          case rel => exact ⟨_, true, rfl, H.out, by simp; omega, hB0.set 0 _ _ rfl⟩
        · obtain ⟨h0, hc, hsz⟩ := head_at hr
          have hq : ((s[0].toNat : Int) == 45) = false := by rw [hc]; rfl
          have H : Hid (scan loose s.data.toList = res1 loose false (s.extract 1 s.size).data.toList) := by
            show _ = _
            rw [cutFrom, hr, hl, scan_plus]; rfl
          clear hr hc hb hl hsz
          go_wp2
          go_meet
          case rel => exact ⟨_, false, rfl, H.out, by simp; omega, hB0.set 0 _ _ rfl⟩
    case rest =>
      obtain ⟨s1, neg, rfl, hsc, hs1, hB1⟩ := hcut
      have HS := hideIt hsc
      clear hsc hB0
      go_wp2_with fail
      refine (digitRun_any s1 _ hs1).mono ?_
      rintro e w1 ⟨rfl, rfl⟩
      have hi := dRun_le s1.data.toList
      rw [size_list] at hi
      obtain ⟨i, hieq⟩ : ∃ i, i = dRun s1.data.toList := ⟨_, rfl⟩
      have HI := hideIt hieq
      rw [← hieq] at hi ⊢
      clear hieq
      go_upto_region 7 with fail
      go_cut [41] (fun v we => v = .bool (intBad loose s1.data.toList) ∧ we = w1)
      case first =>
        have Hb : Hid (intBad loose s1.data.toList = (decide (i = 0) || (decide (1 < i) && (s1.data.toList.head? == some 48) && !loose))) := by
          show _ = _
          rw [HI.out]; rfl
        generalize intBad loose s1.data.toList = b at *
        by_cases h0 : i = 0
        · have hb : b = true := by rw [Hb.out]; simp [h0]
          subst hb h0
          go_wp2
          go_meet
          case rel => exact ⟨rfl, rfl⟩
        · by_cases h1 : 1 < i
          · have hl1 : s1.data.toList ≠ [] := by
              intro h; have := size_list s1; rw [h] at this; simp at this; omega
            obtain ⟨c, r, hcr⟩ := List.exists_cons_of_ne_nil hl1
            obtain ⟨hz, hc, -⟩ := head_at hcr
            cases h48 : ((s1[0].toNat : Int) == 48)
            · have hb : b = false := by
                rw [Hb.out, hcr]
                have : c ≠ 48 := by intro h; rw [hc, h] at h48; exact absurd h48 (by decide)
                simp [h0, h1, this]
              subst hb
              clear hcr hc hl1
              have h0' : ((i : Int) == 0) = false := by simp [h0]
              clear h0
              go_wp2
              go_meet
              case rel => exact ⟨rfl, rfl⟩
            · have hb : b = !loose := by
                rw [Hb.out, hcr]
                have : c = 48 := by
                  have h := h48; rw [hc] at h; simp at h; exact eq_of_toNat (n := 48) (by omega) (by omega)
                simp [h0, h1, this]
              subst hb
              clear hcr hc hl1
              have h0' : ((i : Int) == 0) = false := by simp [h0]
              clear h0
              cases loose
              · go_wp2
                go_meet
                case rel => exact ⟨rfl, rfl⟩
              · go_wp2
                go_meet
                case rel => exact ⟨rfl, rfl⟩
          · have hb : b = false := by rw [Hb.out]; simp [h0, h1]
            subst hb
            have h0' : ((i : Int) == 0) = false := by simp [h0]
            clear h0
            go_wp2
            go_meet
            case rel => exact ⟨rfl, rfl⟩
      case rest =>
        obtain ⟨rfl, rfl⟩ := hcut
        cases hbad : intBad loose s1.data.toList
        · have HF := hideIt (intBad_false (neg := neg) hbad)
          clear hbad
          go_wp2
          have c1 : _ = some (Value.string ⟨#[]⟩) := hB1.cell 1
          have f1 := hB1.free 1
          have hi2 : (i : Int) ≤ (s1.size : Int) := by omega
          go_region
          go_upto_region 10 with fail
          have hB2 : Bx w _ ⟨neg, s1.data.toList.take i, [], false, []⟩ := (hB1.set 1 (.string (s1.extract 0 i)) ⟨neg, s1.data.toList.take i, [], false, []⟩ (by rw [cutTo]; rfl)).drew
          have HL2 := hideIt (cutFrom s1 i)
          have hs2 : (s1.extract i s1.size).size ≤ 1048576 := by simp; omega
          have HS2 : Hid (scan loose s.data.toList = scanF ⟨neg, s1.data.toList.take i, [], false, []⟩ (s1.extract i s1.size).data.toList) := by
            show _ = _
            rw [HS.out, HF.out, cutFrom, HI.out]
          generalize s1.data.toList.take i = int1 at *
          clear HF HI HS HL2 c1 f1 hi2
          generalize (wc.setCell { block := w.heap.size + 1, off := 1 } (Value.string (s1.extract 0 i))).drew = w2 at *
          generalize s1.extract i s1.size = s2 at *
          go_upto_if 51 with (go_at_call 18; refine (hasPrefix1 _ _ _ (by omega)).mono ?_; rintro e w' ⟨rfl, rfl⟩)
          go_cut [7, 8] (fun v _ wd => ∃ s3 frac, v = .string s3 ∧ scan loose s.data.toList = scanX ⟨neg, int1, frac, false, []⟩ s3.data.toList ∧ s3.size ≤ 1048576 ∧ Bx w wd ⟨neg, int1, frac, false, []⟩)
          case first =>
            cases h46 : (s2.data.toList.head? == some 46)
            · have H := hideIt (scanF_other ⟨neg, int1, [], false, []⟩ _ h46)
              go_wp2
              go_meet
              case rel => exact ⟨s2, [], rfl, by rw [HS2.out, H.out], hs2, hB2⟩
            · obtain ⟨r, hr⟩ := head_eq h46
              obtain ⟨hz, -, hsz⟩ := head_at hr
              have H4 : Hid (scan loose s.data.toList = res4 ⟨neg, int1, [], false, []⟩ r) := by
                show _ = _
                rw [HS2.out, hr]; simp [scanF]
              have HR := hideIt hr
              have Hsz := hideIt hsz
              clear hr hsz
              go_wp2_with fail
              have HT : Hid ((s2.extract 1 s2.size).data.toList = r) := by
                show _ = _
                rw [cutFrom, HR.out]; rfl
              have htl : (s2.extract 1 s2.size).size ≤ 1048576 := by simp; omega
              generalize s2.extract 1 s2.size = t at *
              refine (digitRun_any t _ htl).mono ?_
              rintro e w3 ⟨rfl, rfl⟩
              rw [HT.out]
              have hj := dRun_le r
              obtain ⟨j, hjeq⟩ : ∃ j, j = dRun r := ⟨_, rfl⟩
              have HJ := hideIt hjeq
              rw [← hjeq] at hj ⊢
              clear hjeq
              have hj2 : 1 + j ≤ s2.size := by rw [Hsz.out]; omega
              by_cases h0 : j = 0
              · have HN : Hid (scan loose s.data.toList = none) := by
                  show _ = _
                  rw [H4.out]; unfold res4; rw [← HJ.out, if_pos h0]
                have x0 : _ = some (Value.bool false) := hB2.rcell 0
                have x1 : _ = some (Value.string ⟨#[]⟩) := hB2.rcell 1
                have x2 : _ = some (Value.string ⟨#[]⟩) := hB2.rcell 2
                have x3 : _ = some (Value.bool false) := hB2.rcell 3
                have x4 : _ = some (Value.string ⟨#[]⟩) := hB2.rcell 4
                have z0 := hB2.rfree 0
                have z1 := hB2.rfree 1
                have z2 := hB2.rfree 2
                have z3 := hB2.rfree 3
                have z4 := hB2.rfree 4
                subst h0
                go_wp2
                obtain ⟨p1, p2⟩ := put5_box hB2 false ⟨#[]⟩ ⟨#[]⟩ false ⟨#[]⟩
                exact bodyPost_ret (v := .tuple #[.agg (numBox false ⟨#[]⟩ ⟨#[]⟩ false ⟨#[]⟩), .bool false]) (ends15 p1 rfl rfl) rfl ⟨false, ⟨#[]⟩, ⟨#[]⟩, false, ⟨#[]⟩, false, rfl, by rw [HN.out]; rfl, p2⟩
              · have h0' : ((j : Int) == 0) = false := by simp [h0]
                have H5 : Hid (scan loose s.data.toList = scanX ⟨neg, int1, r.take j, false, []⟩ (r.drop j)) := by
                  show _ = _
                  rw [H4.out]; unfold res4; rw [← HJ.out, if_neg h0]; unfold res5; rw [← HJ.out]; simp
                clear h0
                have c2 : _ = some (Value.string ⟨#[]⟩) := hB2.cell 2
                have f2 := hB2.free 2
                have hj3 : 1 + (j : Int) ≤ (s2.size : Int) := by omega
                have HL3 : Hid ((s2.extract (1 + j) s2.size).data.toList = r.drop j) := by
                  show _ = _
                  rw [cutFrom, HR.out, Nat.add_comm]; rfl
                have HL4 : Hid (s2.extract 1 (1 + j) = str (r.take j)) := by
                  show _ = _
                  rw [cutMid, HR.out, Nat.add_sub_cancel_left]; rfl
                go_wp2
                go_region
                go_wp2
                go_meet
                case rel => exact ⟨_, r.take j, rfl, by rw [HL3.out]; exact H5.out, by simp; omega, (hB2.set 2 _ ⟨neg, int1, r.take j, false, []⟩ (by rw [HL4.out]; rfl)).drew⟩
          case rest =>
            obtain ⟨s3, frac, rfl, hsc3, hs3, hB⟩ := hcut
            have HS3 := hideIt hsc3
            clear hsc3 HS2 hB1 hB2
            go_upto_region 15 with fail
            go_cut [72] (fun v we => v = .bool ((s3.data.toList.head? == some 101) || (s3.data.toList.head? == some 69)) ∧ we = wc)
            case first =>
              cases he : (s3.data.toList.head? == some 101)
              · cases hE : (s3.data.toList.head? == some 69)
                · go_wp2_with (go_at_call 18; refine (hasPrefix1 _ _ _ (by omega)).mono ?_; rintro e w' ⟨rfl, rfl⟩)
                  go_meet
                  case rel => exact ⟨by rw [he, hE]; rfl, rfl⟩
                · go_wp2_with (go_at_call 18; refine (hasPrefix1 _ _ _ (by omega)).mono ?_; rintro e w' ⟨rfl, rfl⟩)
                  go_meet
                  case rel => exact ⟨by rw [he, hE]; rfl, rfl⟩
              · go_wp2_with (go_at_call 18; refine (hasPrefix1 _ _ _ (by omega)).mono ?_; rintro e w' ⟨rfl, rfl⟩)
                go_meet
                case rel => exact ⟨by rw [he]; rfl, rfl⟩
            case rest =>
              obtain ⟨rfl, rfl⟩ := hcut
              cases hE : ((s3.data.toList.head? == some 101) || (s3.data.toList.head? == some 69))
              · have Hend : Hid (scan loose s.data.toList = if s3.data.toList = [] then some ⟨neg, int1, frac, false, []⟩ else none) := by
                  show _ = _
                  rw [HS3.out]
                  cases hl : s3.data.toList with
                  | nil => rfl
                  | cons c r => rw [hl] at hE; simp at hE; simp [scanX, hE]
                clear hE
                have x0 : _ = some (Value.bool false) := hB.rcell 0
                have x1 : _ = some (Value.string ⟨#[]⟩) := hB.rcell 1
                have x2 : _ = some (Value.string ⟨#[]⟩) := hB.rcell 2
                have x3 : _ = some (Value.bool false) := hB.rcell 3
                have x4 : _ = some (Value.string ⟨#[]⟩) := hB.rcell 4
                have z0 := hB.rfree 0
                have z1 := hB.rfree 1
                have z2 := hB.rfree 2
                have z3 := hB.rfree 3
                have z4 := hB.rfree 4
                have y0 : _ = some (Value.bool neg) := hB.cell 0
                have y1 : _ = some (Value.string (str int1)) := hB.cell 1
                have y2 : _ = some (Value.string (str frac)) := hB.cell 2
                have y3 : _ = some (Value.bool false) := hB.cell 3
                have y4 : _ = some (Value.string (str [])) := hB.cell 4
                go_wp2
                obtain ⟨p1, p2⟩ := put5_box hB neg (str int1) (str frac) false (str [])
                exact bodyPost_ret (v := .tuple #[.agg (numBox neg (str int1) (str frac) false (str [])), .bool (s3.toList.isEmpty)]) (ends15 p1 rfl rfl) rfl ⟨neg, str int1, str frac, false, (str []), s3.toList.isEmpty, rfl, says_end Hend.out, p2⟩
              · obtain ⟨c, r, hcr, hE'⟩ : ∃ c r, s3.data.toList = c :: r ∧ (c = 101 ∨ c = 69) := by
                  cases hl : s3.data.toList with
                  | nil => rw [hl] at hE; simp at hE
                  | cons c r => rw [hl] at hE; simp at hE; exact ⟨c, r, rfl, hE⟩
                obtain ⟨hz, -, hsz⟩ := head_at hcr
                have H6 : Hid (scan loose s.data.toList = res6 ⟨neg, int1, frac, false, []⟩ r) := by
                  show _ = _
                  rw [HS3.out, hcr]; simp [scanX, hE']
                have HT : Hid ((s3.extract 1 s3.size).data.toList = r) := by
                  show _ = _
                  rw [cutFrom, hcr]; rfl
                clear hE hE' hcr hsz HS3
                go_upto_region 17 with fail
                have ht1 : (s3.extract 1 s3.size).size ≤ 1048576 := by simp; omega
                generalize s3.extract 1 s3.size = s4 at *
                go_cut [80] (fun v we => v = .bool ((r.head? == some 43) || (r.head? == some 45)) ∧ we = wc)
                case first =>
                  cases he : (r.head? == some 43)
                  · cases hE : (r.head? == some 45)
                    · go_wp2_with (go_at_call 18; refine (hasPrefix1 _ _ _ (by omega)).mono ?_; rintro e w' ⟨rfl, rfl⟩; rw [HT.out])
                      go_meet
                      case rel => exact ⟨by rw [he, hE]; rfl, rfl⟩
                    · go_wp2_with (go_at_call 18; refine (hasPrefix1 _ _ _ (by omega)).mono ?_; rintro e w' ⟨rfl, rfl⟩; rw [HT.out])
                      go_meet
                      case rel => exact ⟨by rw [he, hE]; rfl, rfl⟩
                  · go_wp2_with (go_at_call 18; refine (hasPrefix1 _ _ _ (by omega)).mono ?_; rintro e w' ⟨rfl, rfl⟩; rw [HT.out])
                    go_meet
                    case rel => exact ⟨by rw [he]; rfl, rfl⟩
                case rest =>
                  obtain ⟨rfl, rfl⟩ := hcut
                  go_upto_if 80 with fail
                  go_cut [7] (fun v wd => ∃ s5 en, v = .string s5 ∧ scan loose s.data.toList = res7 ⟨neg, int1, frac, en, []⟩ s5.data.toList ∧ s5.size ≤ 1048576 ∧ Bx w wd ⟨neg, int1, frac, en, []⟩)
                  case first =>
                    have y3 : _ = some (Value.bool false) := hB.cell 3
                    have f3 := hB.free 3
                    obtain ⟨b, hb⟩ : ∃ b, b = ((r.head? == some 43) || (r.head? == some 45)) := ⟨_, rfl⟩
                    rw [← hb]
                    cases he : (r.head? == some 43)
                    · cases hE : (r.head? == some 45)
                      · have hb' : b = false := by rw [hb, he, hE]; rfl
                        subst hb'
                        clear hb
                        have H7 : Hid (scan loose s.data.toList = res7 ⟨neg, int1, frac, false, []⟩ s4.data.toList) := by
                          show _ = _
                          rw [H6.out, HT.out]
                          cases r with
                          | nil => rw [res6_nil, res7_nil]
                          | cons d q => simp at he hE; rw [res6_bare _ d q he hE]
                        go_wp2
                        go_meet
                        case rel => exact ⟨s4, false, rfl, H7.out, ht1, hB⟩
                      · have hb' : b = true := by rw [hb, he, hE]; rfl
                        subst hb'
                        clear hb
                        obtain ⟨q, rfl⟩ := head_eq hE
                        obtain ⟨hz4, hc4, hsz4⟩ := head_at HT.out
                        have hq4 : ((s4[0].toNat : Int) == 45) = true := by rw [hc4]; rfl
                        have H7 : Hid (scan loose s.data.toList = res7 ⟨neg, int1, frac, true, []⟩ (s4.extract 1 s4.size).data.toList) := by
                          show _ = _
                          rw [H6.out, res6_minus, cutFrom, HT.out]; rfl
                        clear hc4 hsz4 he hE
                        go_wp2
                        go_meet
                        case rel => exact ⟨_, true, rfl, H7.out, by simp; omega, hB.set 3 _ _ rfl⟩
                    · have hb' : b = true := by rw [hb, he]; rfl
                      subst hb'
                      clear hb
                      obtain ⟨q, rfl⟩ := head_eq he
                      obtain ⟨hz4, hc4, hsz4⟩ := head_at HT.out
                      have hq4 : ((s4[0].toNat : Int) == 45) = false := by rw [hc4]; rfl
                      have H7 : Hid (scan loose s.data.toList = res7 ⟨neg, int1, frac, false, []⟩ (s4.extract 1 s4.size).data.toList) := by
                        show _ = _
                        rw [H6.out, res6_plus, cutFrom, HT.out]; rfl
                      clear hc4 hsz4 he
                      go_wp2
                      go_meet
                      case rel => exact ⟨_, false, rfl, H7.out, by simp; omega, hB.set 3 _ _ rfl⟩
                  case rest =>
                    clear hB
                    obtain ⟨s5, en, rfl, hsc5, hs5, hB⟩ := hcut
                    have H7 := hideIt hsc5
                    clear hsc5 H6 HT
                    go_wp2_with fail
                    refine (digitRun_any s5 _ hs5).mono ?_
                    rintro e w5 ⟨rfl, rfl⟩
                    have hj := dRun_le s5.data.toList
                    rw [size_list] at hj
                    obtain ⟨j, hjeq⟩ : ∃ j, j = dRun s5.data.toList := ⟨_, rfl⟩
                    have HJ := hideIt hjeq
                    rw [← hjeq] at hj ⊢
                    clear hjeq
                    have x0 : _ = some (Value.bool false) := hB.rcell 0
                    have x1 : _ = some (Value.string ⟨#[]⟩) := hB.rcell 1
                    have x2 : _ = some (Value.string ⟨#[]⟩) := hB.rcell 2
                    have x3 : _ = some (Value.bool false) := hB.rcell 3
                    have x4 : _ = some (Value.string ⟨#[]⟩) := hB.rcell 4
                    have z0 := hB.rfree 0
                    have z1 := hB.rfree 1
                    have z2 := hB.rfree 2
                    have z3 := hB.rfree 3
                    have z4 := hB.rfree 4
                    by_cases h0 : j = 0
                    · have HN : Hid (scan loose s.data.toList = none) := by
                        show _ = _
                        rw [H7.out]; unfold res7; rw [← HJ.out, if_pos h0]
                      subst h0
                      go_wp2
                      obtain ⟨p1, p2⟩ := put5_box hB false ⟨#[]⟩ ⟨#[]⟩ false ⟨#[]⟩
                      exact bodyPost_ret (v := .tuple #[.agg (numBox false ⟨#[]⟩ ⟨#[]⟩ false ⟨#[]⟩), .bool false]) (ends15 p1 rfl rfl) rfl ⟨false, ⟨#[]⟩, ⟨#[]⟩, false, ⟨#[]⟩, false, rfl, by rw [HN.out]; rfl, p2⟩
                    · have h0' : ((j : Int) == 0) = false := by simp [h0]
                      have Hend : Hid (scan loose s.data.toList = if (s5.extract j s5.size).data.toList = [] then some ⟨neg, int1, frac, en, s5.data.toList.take j⟩ else none) := by
                        show _ = _
                        rw [H7.out, cutFrom]; unfold res7; rw [← HJ.out, if_neg h0]; unfold res8; rw [← HJ.out]; simp
                      have HX : Hid (s5.extract 0 j = str (s5.data.toList.take j)) := cutTo s5 j
                      clear h0
                      have y4 : _ = some (Value.string ⟨#[]⟩) := hB.cell 4
                      have f4 := hB.free 4
                      have hj3 : (j : Int) ≤ (s5.size : Int) := by omega
                      go_wp2
                      go_region
                      have hB9 := (hB.set 4 (.string (s5.extract 0 j)) ⟨neg, int1, frac, en, s5.data.toList.take j⟩ (by rw [HX.out]; rfl)).drew
                      clear x0 x1 x2 x3 x4 z0 z1 z2 z3 z4 y4 f4
                      have x0 : _ = some (Value.bool false) := hB9.rcell 0
                      have x1 : _ = some (Value.string ⟨#[]⟩) := hB9.rcell 1
                      have x2 : _ = some (Value.string ⟨#[]⟩) := hB9.rcell 2
                      have x3 : _ = some (Value.bool false) := hB9.rcell 3
                      have x4 : _ = some (Value.string ⟨#[]⟩) := hB9.rcell 4
                      have z0 := hB9.rfree 0
                      have z1 := hB9.rfree 1
                      have z2 := hB9.rfree 2
                      have z3 := hB9.rfree 3
                      have z4 := hB9.rfree 4
                      have y0 : _ = some (Value.bool neg) := hB9.cell 0
                      have y1 : _ = some (Value.string (str int1)) := hB9.cell 1
                      have y2 : _ = some (Value.string (str frac)) := hB9.cell 2
                      have y3 : _ = some (Value.bool en) := hB9.cell 3
                      have y4 : _ = some (Value.string (str (s5.data.toList.take j))) := hB9.cell 4
                      generalize s5.data.toList.take j = ex at *
                      generalize (w5.setCell { block := w.heap.size + 1, off := 4 } (Value.string (s5.extract 0 j))).drew = w9 at *
                      generalize s5.extract j s5.size = s6 at *
                      clear hB
                      go_wp2
                      obtain ⟨p1, p2⟩ := put5_box hB9 neg (str int1) (str frac) en (str ex)
                      exact bodyPost_ret (v := .tuple #[.agg (numBox neg (str int1) (str frac) en (str ex)), .bool (s6.toList.isEmpty)]) (ends15 p1 rfl rfl) rfl ⟨neg, str int1, str frac, en, str ex, s6.toList.isEmpty, rfl, says_end Hend.out, p2⟩
        · have HN : Hid (scan loose s.data.toList = none) := by
            show _ = _
            rw [HS.out]; exact intBad_true hbad
          have x0 : _ = some (Value.bool false) := hB1.rcell 0
          have x1 : _ = some (Value.string ⟨#[]⟩) := hB1.rcell 1
          have x2 : _ = some (Value.string ⟨#[]⟩) := hB1.rcell 2
          have x3 : _ = some (Value.bool false) := hB1.rcell 3
          have x4 : _ = some (Value.string ⟨#[]⟩) := hB1.rcell 4
          have z0 := hB1.rfree 0
          have z1 := hB1.rfree 1
          have z2 := hB1.rfree 2
          have z3 := hB1.rfree 3
          have z4 := hB1.rfree 4
          clear hbad
          go_wp2
          obtain ⟨p1, p2⟩ := put5_box hB1 false ⟨#[]⟩ ⟨#[]⟩ false ⟨#[]⟩
          exact bodyPost_ret (v := .tuple #[.agg (numBox false ⟨#[]⟩ ⟨#[]⟩ false ⟨#[]⟩), .bool false]) (ends15 p1 rfl rfl) rfl ⟨false, ⟨#[]⟩, ⟨#[]⟩, false, ⟨#[]⟩, false, rfl, by rw [HN.out]; rfl, p2⟩

set_option maxRecDepth 100000 in
set_option maxHeartbeats 2000000 in
theorem zzscan_any (s : ByteArray) (loose : Bool) (w : World) (hs : s.size ≤ 1048576) :
    Calls Try.prog 9 #[.string s, .bool loose] w fun e w' => ∃ neg a b en c ok, e = .returned (.tuple #[.bool neg, .string a, .string b, .bool en, .string c, .bool ok]) ∧ Says (scan loose s.data.toList) neg a b en c ok ∧ Below w.heap.size w w' := by
  go_enter Try.func9, Try.ntmps9
  go_wp2_with fail
  refine (scan_any s loose _ hs).mono ?_
  rintro e w1 ⟨neg, a, b, en, c, ok, rfl, hsay, hb⟩
  have HS := hideIt hsay
  clear hsay
  simp only [numBox]
  go_wp2
  go_quiet (fail)
  go_wp2
  refine bodyPost_ret (v := .tuple #[.bool neg, .string a, .string b, .bool en, .string c, .bool ok]) (by simp [results, Try.results9, go_sem]) rfl ⟨neg, a, b, en, c, ok, rfl, HS.out, ?_⟩
  exact hb.trans (below_drewN ((Below.refl _ _).alloc hb.size _) _)
end Go.Proofs.Qxb6603961a
