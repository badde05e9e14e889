/- THE PLAIN LAWS of the askers' bitmap: no Go in sight but for the model's own words for bits. -/
import Derived.Laws.BitsAllLaws
import Derived.Laws.Entries
namespace Go.Proofs.Qxb6603956a
set_option linter.unusedVariables false

/-- The bit of participant x within its word. -/
def bitOf (x : Int) : Int := IntKind.u64.wrap (2 ^ (x % 64).toNat)
def hasB (y x : Int) : Bool := !(bits BinOp.and IntKind.u64 y (bitOf x) == 0)
def clrB (y x : Int) : Int := bits BinOp.andNot IntKind.u64 y (bitOf x)
def setB (y x : Int) : Int := bits BinOp.or IntKind.u64 y (bitOf x)

/-- A word. -/
def Wd (y : Int) : Prop := 0 ≤ y ∧ y < 18446744073709551616

theorem pow_lt64 {j : Nat} (h : j < 64) : (2 : Nat) ^ j < 18446744073709551616 := Nat.pow_lt_pow_right (by omega) h (n := 64) (a := 2)

theorem bitOf_eq (x : Int) (hx : 0 ≤ x) : bitOf x = ((2 ^ (x % 64).toNat : Nat) : Int) := by
  have h := pow_lt64 (j := (x % 64).toNat) (by omega)
  unfold bitOf
  rw [IntKind.wrap_u64]
  have e : (2 : Int) ^ (x % 64).toNat = ((2 ^ (x % 64).toNat : Nat) : Int) := by simp
  rw [e]
  exact Int.emod_eq_of_lt (Int.natCast_nonneg _) (Int.ofNat_lt.2 h)

theorem bitOf_wd (x : Int) (hx : 0 ≤ x) : Wd (bitOf x) := by
  have h := pow_lt64 (j := (x % 64).toNat) (by omega)
  rw [bitOf_eq x hx]
  exact ⟨Int.natCast_nonneg _, Int.ofNat_lt.2 h⟩

theorem hasB_eq (y x : Int) (hy : Wd y) (hx : 0 ≤ x) : hasB y x = y.toNat.testBit (x % 64).toNat := by
  obtain ⟨h1, h2⟩ := bitOf_wd x hx
  unfold hasB
  rw [u64_and y (bitOf x) hy.1 hy.2 h1 h2, bitOf_eq x hx, Int.toNat_natCast, nat_bit, Nat.testBit_eq_decide_div_mod_eq]
  have hp : 0 < (2 : Nat) ^ (x % 64).toNat := Nat.two_pow_pos _
  generalize (2 : Nat) ^ (x % 64).toNat = p at *
  rcases Nat.mod_two_eq_zero_or_one (y.toNat / p) with h | h
  · rw [h]; simp
  · rw [h]; simp; omega

theorem setB_bit (y x : Int) (hy : Wd y) (hx : 0 ≤ x) (j : Nat) : (setB y x).toNat.testBit j = (y.toNat.testBit j || decide (j = (x % 64).toNat)) := by
  obtain ⟨h1, h2⟩ := bitOf_wd x hx
  unfold setB
  rw [u64_or y (bitOf x) hy.1 hy.2 h1 h2, bitOf_eq x hx, Int.toNat_natCast, Int.toNat_natCast, Nat.testBit_or, Nat.testBit_two_pow]
  congr 1
  simp only [decide_eq_decide]
  exact eq_comm

theorem setB_wd (y x : Int) (hy : Wd y) (hx : 0 ≤ x) : Wd (setB y x) := by
  obtain ⟨h1, h2⟩ := bitOf_wd x hx
  unfold setB
  rw [u64_or y (bitOf x) hy.1 hy.2 h1 h2]
  have := Nat.or_lt_two_pow (x := y.toNat) (y := (bitOf x).toNat) (n := 64) (by have := hy.2; omega) (by omega)
  exact ⟨by omega, by omega⟩

theorem clrB_bit (y x : Int) (hy : Wd y) (hx : 0 ≤ x) (j : Nat) : (clrB y x).toNat.testBit j = (y.toNat.testBit j && decide (j ≠ (x % 64).toNat)) := by
  obtain ⟨h1, h2⟩ := bitOf_wd x hx
  unfold clrB
  rw [u64_andNot y (bitOf x) hy.1 hy.2 h1 h2, bitOf_eq x hx, Int.toNat_natCast, Int.toNat_natCast, Nat.testBit_and]
  by_cases hj : j < 64
  · have hk : (x % 64).toNat < 64 := by omega
    have e : (18446744073709551615 - 2 ^ (x % 64).toNat).testBit j = decide (j ≠ (x % 64).toNat) := by
      have hp := pow_lt64 hk
      have := Nat.testBit_two_pow_sub_succ (x := 2 ^ (x % 64).toNat) (n := 64) hp j
      rw [show (18446744073709551615 - 2 ^ (x % 64).toNat) = 2 ^ 64 - (2 ^ (x % 64).toNat + 1) by omega, this, Nat.testBit_two_pow]
      simp [hj, eq_comm]
    rw [e]
  · have : y.toNat.testBit j = false := Nat.testBit_lt_two_pow (Nat.lt_of_lt_of_le (show y.toNat < 2 ^ 64 by have := hy.2; omega) (Nat.pow_le_pow_right (by omega) (by omega)))
    simp [this]

theorem clrB_wd (y x : Int) (hy : Wd y) (hx : 0 ≤ x) : Wd (clrB y x) := by
  obtain ⟨h1, h2⟩ := bitOf_wd x hx
  unfold clrB
  rw [u64_andNot y (bitOf x) hy.1 hy.2 h1 h2]
  have := Nat.and_lt_two_pow (x := y.toNat) (y := 18446744073709551615 - (bitOf x).toNat) (n := 64) (by omega)
  exact ⟨by omega, by omega⟩

/-! ### The bitmap -/
def Wds (M : List Int) : Prop := ∀ y ∈ M, Wd y
theorem Wds.getD {M : List Int} (h : Wds M) (i : Nat) : Wd (M.getD i 0) := by
  by_cases hi : i < M.length
  · rw [List.getD_eq_getElem?_getD, List.getElem?_eq_getElem hi]; exact h _ (List.getElem_mem hi)
  · rw [List.getD_eq_getElem?_getD, List.getElem?_eq_none (by omega)]; exact ⟨by decide, by decide⟩
theorem Wds.set {M : List Int} (h : Wds M) (i : Nat) (y : Int) (hy : Wd y) : Wds (M.set i y) := by
  intro z hz
  rcases List.mem_or_eq_of_mem_set hz with h1 | h1
  · exact h z h1
  · subst h1; exact hy

/-- Is participant n's bit set? -/
def bt (M : List Int) (n : Nat) : Bool := (M.getD (n / 64) 0).toNat.testBit (n % 64)

theorem getD_set (M : List Int) (i j : Nat) (y : Int) (h : i < M.length) : (M.set i y).getD j 0 = if j = i then y else M.getD j 0 := by
  simp only [List.getD_eq_getElem?_getD, List.getElem?_set]
  by_cases e : i = j
  · subst e; simp [h]
  · rw [if_neg e, if_neg (fun h => e h.symm)]

theorem toNat_div64 (x : Int) (hx : 0 ≤ x) : (x / 64).toNat = x.toNat / 64 := by omega
theorem toNat_mod64 (x : Int) (hx : 0 ≤ x) : (x % 64).toNat = x.toNat % 64 := by omega

theorem bt_set (M : List Int) (hM : Wds M) (x : Int) (hx : 0 ≤ x) (h : (x / 64).toNat < M.length) (n : Nat) :
    bt (M.set (x / 64).toNat (setB (M.getD (x / 64).toNat 0) x)) n = (bt M n || decide (n = x.toNat)) := by
  unfold bt
  rw [getD_set _ _ _ _ h]
  by_cases e : n / 64 = (x / 64).toNat
  · rw [if_pos e, setB_bit _ _ (hM.getD _) hx, e]
    congr 1
    rw [decide_eq_decide, toNat_mod64 x hx]
    rw [toNat_div64 x hx] at e
    constructor
    · intro h; omega
    · intro h; rw [h]
  · rw [if_neg e]
    have : n ≠ x.toNat := by intro h; apply e; rw [h, toNat_div64 x hx]
    simp [this]

theorem bt_clr (M : List Int) (hM : Wds M) (x : Int) (hx : 0 ≤ x) (h : (x / 64).toNat < M.length) (n : Nat) :
    bt (M.set (x / 64).toNat (clrB (M.getD (x / 64).toNat 0) x)) n = (bt M n && decide (n ≠ x.toNat)) := by
  unfold bt
  rw [getD_set _ _ _ _ h]
  by_cases e : n / 64 = (x / 64).toNat
  · rw [if_pos e, clrB_bit _ _ (hM.getD _) hx, e]
    congr 1
    rw [decide_eq_decide, toNat_mod64 x hx]
    rw [toNat_div64 x hx] at e
    constructor
    · intro h1 h2; apply h1; rw [h2]
    · intro h; omega
  · rw [if_neg e]
    have : n ≠ x.toNat := by intro h; apply e; rw [h, toNat_div64 x hx]
    simp [this]

theorem hasB_bt (M : List Int) (hM : Wds M) (x : Int) (hx : 0 ≤ x) : hasB (M.getD (x / 64).toNat 0) x = bt M x.toNat := by
  rw [hasB_eq _ _ (hM.getD _) hx]
  unfold bt
  rw [toNat_mod64 x hx, toNat_div64 x hx]

theorem bt_append_zeros (M : List Int) (k n : Nat) : bt (M ++ List.replicate k 0) n = bt M n := by
  unfold bt
  have : (M ++ List.replicate k 0).getD (n / 64) 0 = M.getD (n / 64) 0 := by
    simp only [List.getD_eq_getElem?_getD, List.getElem?_append, List.getElem?_replicate]
    split
    · rfl
    · rw [List.getElem?_eq_none (by omega)]; split <;> rfl
  rw [this]

/-! ### askConsistent -/
def consGo : List Int → List Int → Bool
  | [], W => W.all (fun y => y == 0)
  | x :: A, W => if x < 0 then false else if x / 64 < (W.length : Int) then (if hasB (W.getD (x / 64).toNat 0) x then consGo A (W.set (x / 64).toNat (clrB (W.getD (x / 64).toNat 0) x)) else false) else false

/-- The askers are distinct participants whose bits are just those that are set. -/
structure Cons (A M : List Int) : Prop where
  nodup : A.Nodup
  ok : ∀ x ∈ A, 0 ≤ x ∧ x / 64 < (M.length : Int)
  bits : ∀ n : Nat, bt M n = true ↔ (n : Int) ∈ A

theorem zero_of_bits (y : Int) (hy : Wd y) (h : ∀ j, j < 64 → y.toNat.testBit j = false) : y = 0 := by
  have : y.toNat = 0 := by
    apply Nat.eq_of_testBit_eq
    intro j
    rw [Nat.zero_testBit]
    by_cases hj : j < 64
    · exact h j hj
    · exact Nat.testBit_lt_two_pow (Nat.lt_of_lt_of_le (show y.toNat < 2 ^ 64 by have := hy.2; omega) (Nat.pow_le_pow_right (by omega) (by omega)))
  have := hy.1
  omega

theorem consGo_iff (A : List Int) : ∀ (M : List Int), Wds M → (consGo A M = true ↔ Cons A M) := by
  induction A with
  | nil =>
    intro M hM
    unfold consGo
    constructor
    · intro h
      refine ⟨List.nodup_nil, by simp, fun n => ?_⟩
      have h0 : M.getD (n / 64) 0 = 0 := by
        by_cases hi : n / 64 < M.length
        · rw [List.getD_eq_getElem?_getD, List.getElem?_eq_getElem hi]
          have := List.all_eq_true.1 h _ (List.getElem_mem hi)
          simpa using this
        · rw [List.getD_eq_getElem?_getD, List.getElem?_eq_none (by omega)]; rfl
      unfold bt
      rw [h0]
      simp
    · intro h
      rw [List.all_eq_true]
      intro y hy
      obtain ⟨i, hi, rfl⟩ := List.mem_iff_getElem.1 hy
      have := zero_of_bits M[i] (hM _ (List.getElem_mem hi)) (fun j hj => by
        have hb := h.bits (i * 64 + j)
        have e1 : (i * 64 + j) / 64 = i := by omega
        have e2 : (i * 64 + j) % 64 = j := by omega
        unfold bt at hb
        rw [e1, e2, List.getD_eq_getElem?_getD, List.getElem?_eq_getElem hi] at hb
        simp at hb
        simpa using hb)
      simp [this]
  | cons x A ih =>
    intro M hM
    unfold consGo
    by_cases h0 : x < 0
    · rw [if_pos h0]
      constructor
      · intro h; cases h
      · intro h; have := (h.ok x (by simp)).1; omega
    rw [if_neg h0]
    by_cases h1 : ¬ x / 64 < (M.length : Int)
    · rw [if_neg h1]
      constructor
      · intro h; cases h
      · intro h; exact absurd (h.ok x (by simp)).2 h1
    replace h1 := Decidable.not_not.1 h1
    rw [if_pos h1]
    have hx : 0 ≤ x := by omega
    have hlt : (x / 64).toNat < M.length := by omega
    rw [hasB_bt M hM x hx]
    by_cases hb : ¬ bt M x.toNat = true
    · rw [if_neg hb]
      constructor
      · intro h; cases h
      · intro h
        exact absurd ((h.bits x.toNat).2 (by rw [Int.toNat_of_nonneg hx]; simp)) hb
    replace hb := Decidable.not_not.1 hb
    rw [if_pos hb, ih _ (hM.set _ _ (clrB_wd _ _ (hM.getD _) hx))]
    have hbt := bt_clr M hM x hx hlt
    generalize hM' : M.set (x / 64).toNat (clrB (M.getD (x / 64).toNat 0) x) = M' at *
    have hlen : M'.length = M.length := by rw [← hM']; simp
    constructor
    · intro h
      have hxA : x ∉ A := by
        intro hm
        have := (h.bits x.toNat).2 (by rw [Int.toNat_of_nonneg hx]; exact hm)
        rw [hbt] at this
        simp at this
      refine ⟨List.nodup_cons.2 ⟨hxA, h.nodup⟩, ?_, fun n => ?_⟩
      · intro z hz
        rcases List.mem_cons.1 hz with rfl | hz
        · exact ⟨hx, h1⟩
        · have := h.ok z hz; rw [hlen] at this; exact this
      · have hn := h.bits n
        rw [hbt] at hn
        by_cases e : n = x.toNat
        · subst e; simp [hb, Int.toNat_of_nonneg hx]
        · have e' : (n : Int) ≠ x := by omega
          simp only [e, ne_eq, not_false_eq_true, decide_true, Bool.and_true] at hn
          rw [hn, List.mem_cons]
          simp [e']
    · intro h
      have hnd := List.nodup_cons.1 h.nodup
      refine ⟨hnd.2, fun z hz => by rw [hlen]; exact h.ok z (by simp [hz]), fun n => ?_⟩
      rw [hbt]
      have hn := h.bits n
      by_cases e : n = x.toNat
      · subst e
        simp only [ne_eq, not_true_eq_false, decide_false, Bool.and_false, Bool.false_eq_true, false_iff]
        rw [Int.toNat_of_nonneg hx]
        exact hnd.1
      · have e' : (n : Int) ≠ x := by omega
        simp only [e, ne_eq, not_false_eq_true, decide_true, Bool.and_true]
        rw [hn, List.mem_cons]
        simp [e']

/-! ### ask -/
/-- The bitmap grown to hold word i. -/
def growM (M : List Int) (i : Nat) : List Int := if i < M.length then M else M ++ List.replicate (i + 1 - M.length) 0
theorem growM_length (M : List Int) (i : Nat) : (growM M i).length = max M.length (i + 1) := by
  unfold growM
  split
  · omega
  · rw [List.length_append, List.length_replicate]; omega
theorem growM_wds (M : List Int) (i : Nat) (h : Wds M) : Wds (growM M i) := by
  unfold growM
  split
  · exact h
  · intro y hy
    rcases List.mem_append.1 hy with h1 | h1
    · exact h y h1
    · rw [(List.mem_replicate.1 h1).2]; exact ⟨by decide, by decide⟩
theorem bt_growM (M : List Int) (i n : Nat) : bt (growM M i) n = bt M n := by
  unfold growM; split
  · rfl
  · exact bt_append_zeros M _ n

def askHad (M : List Int) (f : Int) : Bool := hasB ((growM M (f / 64).toNat).getD (f / 64).toNat 0) f
def askA (A M : List Int) (f : Int) : List Int := if askHad M f then A else A ++ [f]
def askM (M : List Int) (f : Int) : List Int :=
  if askHad M f then growM M (f / 64).toNat else (growM M (f / 64).toNat).set (f / 64).toNat (setB ((growM M (f / 64).toNat).getD (f / 64).toNat 0) f)

theorem askHad_eq (M : List Int) (hM : Wds M) (f : Int) (hf : 0 ≤ f) : askHad M f = bt M f.toNat := by
  unfold askHad
  rw [hasB_bt _ (growM_wds M _ hM) f hf, bt_growM]

theorem askHad_iff {A M : List Int} (h : Cons A M) (hM : Wds M) (f : Int) (hf : 0 ≤ f) : askHad M f = true ↔ f ∈ A := by
  rw [askHad_eq M hM f hf, h.bits, Int.toNat_of_nonneg hf]

theorem askM_wds (M : List Int) (hM : Wds M) (f : Int) (hf : 0 ≤ f) : Wds (askM M f) := by
  unfold askM
  split
  · exact growM_wds M _ hM
  · exact (growM_wds M _ hM).set _ _ (setB_wd _ _ ((growM_wds M _ hM).getD _) hf)

theorem askM_length (M : List Int) (f : Int) : (askM M f).length = max M.length ((f / 64).toNat + 1) := by
  unfold askM; split <;> simp [growM_length]

theorem ask_cons {A M : List Int} (h : Cons A M) (hM : Wds M) (f : Int) (hf : 0 ≤ f) : Cons (askA A M f) (askM M f) := by
  have hl : (growM M (f / 64).toNat).length = max M.length ((f / 64).toNat + 1) := growM_length _ _
  have hiff := askHad_iff h hM f hf
  unfold askA askM
  by_cases hh : askHad M f = true
  · rw [if_pos hh, if_pos hh]
    refine ⟨h.nodup, fun x hx => ?_, fun n => ?_⟩
    · have := h.ok x hx; rw [hl]; omega
    · rw [bt_growM]; exact h.bits n
  · rw [if_neg hh, if_neg hh]
    have hfA : f ∉ A := fun hm => hh (hiff.2 hm)
    refine ⟨?_, fun x hx => ?_, fun n => ?_⟩
    · rw [List.nodup_append]
      refine ⟨h.nodup, by simp, ?_⟩
      intro a ha b hb e
      simp at hb
      subst hb e
      exact hfA ha
    · rw [List.length_set, hl]
      rcases List.mem_append.1 hx with hx | hx
      · have := h.ok x hx; omega
      · simp at hx; subst hx; omega
    · rw [bt_set _ (growM_wds M _ hM) f hf (by omega), bt_growM, List.mem_append]
      simp only [Bool.or_eq_true, decide_eq_true_eq, List.mem_singleton]
      rw [h.bits n]
      constructor
      · rintro (h | h)
        · exact .inl h
        · right; omega
      · rintro (h | h)
        · exact .inl h
        · right; omega

theorem cons_nil : Cons [] [] := ⟨List.nodup_nil, by simp, fun n => by simp [bt]⟩

end Go.Proofs.Qxb6603956a
