/- THE PLAIN LAW OF THE NUMBER GRAMMAR: scanNumber's road and the automaton's residuals. No Go in sight. -/
namespace Go.Proofs.Qxb6603961a
set_option linter.unusedVariables false

def isD (c : UInt8) : Bool := decide (48 ≤ c.toNat) && decide (c.toNat ≤ 57)
/-- The length of the run of digits at the head. -/
def dRun : List UInt8 → Nat
  | [] => 0
  | c :: l => if isD c then dRun l + 1 else 0

structure Num where
  neg : Bool
  int : List UInt8
  frac : List UInt8
  en : Bool
  ex : List UInt8

def signOf (loose : Bool) : List UInt8 → Bool × List UInt8
  | [] => (false, [])
  | c :: r => if c = 45 then (true, r) else if c = 43 ∧ loose = true then (false, r) else (false, c :: r)
def esign : List UInt8 → Bool × List UInt8
  | [] => (false, [])
  | d :: r => if d = 43 then (false, r) else if d = 45 then (true, r) else (false, d :: r)
/-- Behind the exponent's digits have begun: what was read is xs. -/
def res8 (n : Num) (xs : List UInt8) (s : List UInt8) : Option Num :=
  if s.drop (dRun s) = [] then some { n with ex := xs ++ s.take (dRun s) } else none
/-- Behind the exponent's sign. -/
def res7 (n : Num) (s : List UInt8) : Option Num := if dRun s = 0 then none else res8 n [] s
/-- Behind the exponent's marker. -/
def res6 (n : Num) (s : List UInt8) : Option Num := res7 { n with en := (esign s).1 } (esign s).2
def scanX (n : Num) : List UInt8 → Option Num
  | [] => some n
  | c :: r => if c = 101 ∨ c = 69 then res6 n r else none
/-- Behind the fraction's digits have begun. -/
def res5 (n : Num) (fr : List UInt8) (s : List UInt8) : Option Num := scanX { n with frac := fr ++ s.take (dRun s) } (s.drop (dRun s))
/-- Behind the point. -/
def res4 (n : Num) (s : List UInt8) : Option Num := if dRun s = 0 then none else res5 n [] s
def scanF (n : Num) : List UInt8 → Option Num
  | [] => some n
  | c :: r => if c = 46 then res4 n r else scanX n (c :: r)
/-- Behind the integer's digits have begun. -/
def res3 (neg : Bool) (ds : List UInt8) (s : List UInt8) : Option Num := scanF ⟨neg, ds ++ s.take (dRun s), [], false, []⟩ (s.drop (dRun s))
/-- Behind a first zero that must stand alone. -/
def res2 (neg : Bool) (s : List UInt8) : Option Num := if dRun s = 0 then scanF ⟨neg, [48], [], false, []⟩ s else none
/-- Behind the sign. -/
def res1 (loose neg : Bool) (s : List UInt8) : Option Num :=
  if dRun s = 0 then none else if 1 < dRun s ∧ s.head? = some 48 ∧ loose = false then none else res3 neg [] s
def scan (loose : Bool) (l : List UInt8) : Option Num := res1 loose (signOf loose l).1 (signOf loose l).2

theorem dRun_le (l : List UInt8) : dRun l ≤ l.length := by
  induction l with
  | nil => simp [dRun]
  | cons c l ih => unfold dRun; split <;> simp <;> omega
theorem dRun_digit {c : UInt8} {l : List UInt8} (h : isD c = true) : dRun (c :: l) = dRun l + 1 := by simp [dRun, h]
theorem dRun_not {c : UInt8} {l : List UInt8} (h : isD c = false) : dRun (c :: l) = 0 := by simp [dRun, h]

theorem eq_of_toNat {c : UInt8} {n : Nat} (hn : n < 256) (h : c.toNat = n) : c = UInt8.ofNat n := by
  apply UInt8.toNat_inj.1
  rw [h]; simp; omega

/-! ### The derivatives -/
theorem res8_digit (n : Num) (xs : List UInt8) (c : UInt8) (r : List UInt8) (h : isD c = true) : res8 n xs (c :: r) = res8 n (xs ++ [c]) r := by
  simp [res8, dRun_digit h]
theorem res8_other (n : Num) (xs : List UInt8) (c : UInt8) (r : List UInt8) (h : isD c = false) : res8 n xs (c :: r) = none := by
  simp [res8, dRun_not h]
theorem res8_nil (n : Num) (xs : List UInt8) : res8 n xs [] = some { n with ex := xs } := by simp [res8, dRun]
theorem res7_digit (n : Num) (c : UInt8) (r : List UInt8) (h : isD c = true) : res7 n (c :: r) = res8 n [c] r := by
  simp [res7, dRun_digit h, res8_digit n [] c r h]
theorem res7_other (n : Num) (c : UInt8) (r : List UInt8) (h : isD c = false) : res7 n (c :: r) = none := by simp [res7, dRun_not h]
theorem res7_nil (n : Num) : res7 n [] = none := by simp [res7, dRun]
theorem res6_plus (n : Num) (r : List UInt8) : res6 n (43 :: r) = res7 { n with en := false } r := by simp [res6, esign]
theorem res6_minus (n : Num) (r : List UInt8) : res6 n (45 :: r) = res7 { n with en := true } r := by simp [res6, esign]
theorem res6_bare (n : Num) (c : UInt8) (r : List UInt8) (h1 : c ≠ 43) (h2 : c ≠ 45) : res6 n (c :: r) = res7 { n with en := false } (c :: r) := by simp [res6, esign, h1, h2]
theorem res6_nil (n : Num) : res6 n [] = none := by simp [res6, esign, res7_nil]
theorem res5_digit (n : Num) (fr : List UInt8) (c : UInt8) (r : List UInt8) (h : isD c = true) : res5 n fr (c :: r) = res5 n (fr ++ [c]) r := by
  simp [res5, dRun_digit h]
theorem res5_mark (n : Num) (fr : List UInt8) (c : UInt8) (r : List UInt8) (h : isD c = false) (hc : c = 101 ∨ c = 69) : res5 n fr (c :: r) = res6 { n with frac := fr } r := by
  simp [res5, dRun_not h, scanX, hc]
theorem res5_other (n : Num) (fr : List UInt8) (c : UInt8) (r : List UInt8) (h : isD c = false) (hc : ¬ (c = 101 ∨ c = 69)) : res5 n fr (c :: r) = none := by
  simp [res5, dRun_not h, scanX, hc]
theorem res5_nil (n : Num) (fr : List UInt8) : res5 n fr [] = some { n with frac := fr } := by simp [res5, dRun, scanX]
theorem res4_digit (n : Num) (c : UInt8) (r : List UInt8) (h : isD c = true) : res4 n (c :: r) = res5 n [c] r := by
  simp [res4, dRun_digit h, res5_digit n [] c r h]
theorem res4_other (n : Num) (c : UInt8) (r : List UInt8) (h : isD c = false) : res4 n (c :: r) = none := by simp [res4, dRun_not h]
theorem res4_nil (n : Num) : res4 n [] = none := by simp [res4, dRun]
theorem res3_digit (neg : Bool) (ds : List UInt8) (c : UInt8) (r : List UInt8) (h : isD c = true) : res3 neg ds (c :: r) = res3 neg (ds ++ [c]) r := by
  simp [res3, dRun_digit h]
theorem res3_dot (neg : Bool) (ds : List UInt8) (r : List UInt8) : res3 neg ds (46 :: r) = res4 ⟨neg, ds, [], false, []⟩ r := by
  have h : isD 46 = false := by decide
  simp [res3, dRun_not h, scanF]
theorem res3_mark (neg : Bool) (ds : List UInt8) (c : UInt8) (r : List UInt8) (hc : c = 101 ∨ c = 69) : res3 neg ds (c :: r) = res6 ⟨neg, ds, [], false, []⟩ r := by
  have h : isD c = false := by rcases hc with rfl | rfl <;> decide
  have h46 : c ≠ 46 := by rcases hc with rfl | rfl <;> decide
  simp [res3, dRun_not h, scanF, h46, scanX, hc]
theorem res3_other (neg : Bool) (ds : List UInt8) (c : UInt8) (r : List UInt8) (h : isD c = false) (h46 : c ≠ 46) (hc : ¬ (c = 101 ∨ c = 69)) : res3 neg ds (c :: r) = none := by
  simp [res3, dRun_not h, scanF, h46, scanX, hc]
theorem res3_nil (neg : Bool) (ds : List UInt8) : res3 neg ds [] = some ⟨neg, ds, [], false, []⟩ := by simp [res3, dRun, scanF]
theorem res2_digit (neg : Bool) (c : UInt8) (r : List UInt8) (h : isD c = true) : res2 neg (c :: r) = none := by simp [res2, dRun_digit h]
theorem res2_dot (neg : Bool) (r : List UInt8) : res2 neg (46 :: r) = res4 ⟨neg, [48], [], false, []⟩ r := by
  have h : isD 46 = false := by decide
  simp [res2, dRun_not h, scanF]
theorem res2_mark (neg : Bool) (c : UInt8) (r : List UInt8) (hc : c = 101 ∨ c = 69) : res2 neg (c :: r) = res6 ⟨neg, [48], [], false, []⟩ r := by
  have h : isD c = false := by rcases hc with rfl | rfl <;> decide
  have h46 : c ≠ 46 := by rcases hc with rfl | rfl <;> decide
  simp [res2, dRun_not h, scanF, h46, scanX, hc]
theorem res2_other (neg : Bool) (c : UInt8) (r : List UInt8) (h46 : c ≠ 46) (hc : ¬ (c = 101 ∨ c = 69)) : res2 neg (c :: r) = none := by
  unfold res2
  split
  · simp [scanF, h46, scanX, hc]
  · rfl
theorem res2_nil (neg : Bool) : res2 neg [] = some ⟨neg, [48], [], false, []⟩ := by simp [res2, dRun, scanF]
theorem res1_zero (neg : Bool) (r : List UInt8) : res1 false neg (48 :: r) = res2 neg r := by
  have h : isD 48 = true := by decide
  unfold res1 res2
  rw [dRun_digit h, if_neg (by omega)]
  by_cases h0 : dRun r = 0
  · rw [h0, if_neg (by simp), if_pos rfl]
    simp [res3, dRun_digit h, h0]
  · rw [if_pos ⟨by omega, rfl, rfl⟩, if_neg h0]
theorem res1_digit (loose neg : Bool) (c : UInt8) (r : List UInt8) (h : isD c = true) (hz : loose = true ∨ c ≠ 48) : res1 loose neg (c :: r) = res3 neg [c] r := by
  unfold res1
  rw [dRun_digit h, if_neg (by omega), if_neg]
  · exact res3_digit neg [] c r h
  · rintro ⟨_, h1, h2⟩
    simp at h1
    rcases hz with hz | hz
    · rw [hz] at h2; cases h2
    · exact hz h1
theorem res1_other (loose neg : Bool) (c : UInt8) (r : List UInt8) (h : isD c = false) : res1 loose neg (c :: r) = none := by simp [res1, dRun_not h]
theorem res1_nil (loose neg : Bool) : res1 loose neg [] = none := by simp [res1, dRun]
theorem scan_minus (loose : Bool) (r : List UInt8) : scan loose (45 :: r) = res1 loose true r := by simp [scan, signOf]
theorem scan_plus (r : List UInt8) : scan true (43 :: r) = res1 true false r := by simp [scan, signOf]
theorem scan_bare (loose : Bool) (c : UInt8) (r : List UInt8) (h1 : c ≠ 45) (h2 : ¬ (c = 43 ∧ loose = true)) : scan loose (c :: r) = res1 loose false (c :: r) := by
  have e : signOf loose (c :: r) = (false, c :: r) := by
    show (if c = 45 then (true, r) else if c = 43 ∧ loose = true then (false, r) else (false, c :: r)) = _
    rw [if_neg h1, if_neg h2]
  unfold scan; rw [e]
theorem scan_nil (loose : Bool) : scan loose [] = none := by simp [scan, signOf, res1_nil]

end Go.Proofs.Qxb6603961a
