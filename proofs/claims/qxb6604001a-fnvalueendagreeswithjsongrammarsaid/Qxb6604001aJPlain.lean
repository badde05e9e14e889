/- What valueEnd's scan of a container does, and what the grammar's functions tell of it. No Go here. -/
import Derived.Test.Qxb6604001aStr
namespace Go.Proofs.Qxb6604001a
set_option linter.unusedVariables false

/-- A byte that the scan of a container passes without more. -/
def isOth (c : Int) : Prop := c ≠ 34 ∧ c ≠ 91 ∧ c ≠ 93 ∧ c ≠ 123 ∧ c ≠ 125

/-- The scan goes from place i at depth d to place i' at depth d', and does not return on its way. -/
inductive Scan (zs : List Int) : Nat → Nat → Nat → Nat → Prop
  | refl {i d : Nat} : Scan zs i d i d
  | other {i d i' d' : Nat} : i < zs.length → isOth (zs.getD i 0) → Scan zs (i + 1) d i' d' → Scan zs i d i' d'
  | str {i d e i' d' : Nat} : zs.getD i 0 = 34 → StrPath zs (i + 1) e → Scan zs e d i' d' → Scan zs i d i' d'
  | opn {i d i' d' : Nat} : i < zs.length → zs.getD i 0 = 91 ∨ zs.getD i 0 = 123 → Scan zs (i + 1) (d + 1) i' d' → Scan zs i d i' d'
  | cls {i d i' d' : Nat} : i < zs.length → zs.getD i 0 = 93 ∨ zs.getD i 0 = 125 → Scan zs (i + 1) (d + 1) i' d' → Scan zs i (d + 2) i' d'

theorem Scan.trans {zs : List Int} {i d i' d' i'' d'' : Nat} (h1 : Scan zs i d i' d') (h2 : Scan zs i' d' i'' d'') : Scan zs i d i'' d'' := by
  induction h1 with
  | refl => exact h2
  | other a b _ ih => exact .other a b (ih h2)
  | str a b _ ih => exact .str a b (ih h2)
  | opn a b _ ih => exact .opn a b (ih h2)
  | cls a b _ ih => exact .cls a b (ih h2)

def Bal (zs : List Int) (i e : Nat) : Prop := ∀ d, Scan zs i (d + 1) e (d + 1)
theorem Bal.refl (zs : List Int) (i : Nat) : Bal zs i i := fun _ => .refl
theorem Bal.trans {zs : List Int} {i j k : Nat} (h1 : Bal zs i j) (h2 : Bal zs j k) : Bal zs i k := fun d => (h1 d).trans (h2 d)
theorem Bal.one {zs : List Int} {i : Nat} (h : i < zs.length) (ho : isOth (zs.getD i 0)) : Bal zs i (i + 1) := fun d => .other h ho .refl
theorem Bal.all {zs : List Int} {i j : Nat} (hij : i ≤ j) (hj : j ≤ zs.length) (h : ∀ k, i ≤ k → k < j → isOth (zs.getD k 0)) : Bal zs i j := by
  obtain ⟨n, rfl⟩ := Nat.le.dest hij
  clear hij
  induction n with
  | zero => exact Bal.refl _ _
  | succ n ih =>
    have := ih (by omega) (fun k h1 h2 => h k h1 (by omega))
    exact this.trans (Bal.one (by omega) (h (i + n) (by omega) (by omega)))
theorem Bal.strg {zs : List Int} {i e : Nat} (h : zs.getD i 0 = 34) (hp : StrPath zs (i + 1) e) : Bal zs i e := fun d => .str h hp .refl

/-- A byte of a number or a literal. -/
def isLit (c : Int) : Prop := endsLit c = false ∧ c ≠ 34 ∧ c ≠ 91 ∧ c ≠ 123
theorem isLit.oth {c : Int} (h : isLit c) : isOth c := by
  obtain ⟨h1, h2, h3, h4⟩ := h
  simp [endsLit] at h1
  exact ⟨h2, h3, h1.1.2, h4, h1.2⟩
theorem ws_oth {c : Int} (h : isWs c = true) : isOth c := by
  simp [isWs] at h; unfold isOth; omega

/-- What the grammar's answer e at i means to valueEnd. -/
def Val (zs : List Int) (i e : Nat) : Prop :=
  i < e ∧ e ≤ zs.length ∧ (
    (zs.getD i 0 = 34 ∧ StrPath zs (i + 1) e) ∨
    ((zs.getD i 0 = 91 ∨ zs.getD i 0 = 123) ∧ ∃ m, e = m + 1 ∧ Bal zs (i + 1) m ∧ (zs.getD m 0 = 93 ∨ zs.getD m 0 = 125)) ∨
    (∀ k, i ≤ k → k < e → isLit (zs.getD k 0)))

theorem Val.bal {zs : List Int} {i e : Nat} (h : Val zs i e) : Bal zs i e := by
  obtain ⟨h1, h2, ⟨h3, h4⟩ | ⟨h3, m, rfl, h4, h5⟩ | h3⟩ := h
  · exact Bal.strg h3 h4
  · intro d
    exact .opn (by omega) h3 ((h4 (d + 1)).trans (.cls (by omega) h5 .refl))
  · exact Bal.all (by omega) h2 (fun k a b => (h3 k a b).oth)

def Ans (zs : List Int) (i : Nat) (r : Int) : Prop := r = -1 ∨ ∃ e : Nat, r = e ∧ Val zs i e
theorem Ans.no (zs : List Int) (i : Nat) : Ans zs i (-1) := .inl rfl
theorem Ans.box {zs : List Int} {i j : Nat} (hi : i < j) (hj : j < zs.length) (h1 : zs.getD i 0 = 91 ∨ zs.getD i 0 = 123) (hb : Bal zs (i + 1) j) (h2 : zs.getD j 0 = 93 ∨ zs.getD j 0 = 125) : Ans zs i ((j : Int) + 1) :=
  .inr ⟨j + 1, by simp, by omega, by omega, .inr (.inl ⟨h1, j, rfl, hb, h2⟩)⟩

def isNumB (c : Int) : Prop := (48 ≤ c ∧ c ≤ 57) ∨ c = 43 ∨ c = 45 ∨ c = 46 ∨ c = 69 ∨ c = 101
theorem isNumB.lit {c : Int} (h : isNumB c) : isLit c := by
  unfold isNumB at h
  refine ⟨?_, by omega, by omega, by omega⟩
  simp [endsLit, isSep, isWs]; omega
theorem dig_num {c : Int} (h : isDig c = true) : isNumB c := by
  simp [isDig] at h; exact .inl h

/-- All of [i, j) are bytes of a number. -/
def Num (zs : List Int) (i j : Nat) : Prop := i ≤ j ∧ j ≤ zs.length ∧ ∀ k, i ≤ k → k < j → isNumB (zs.getD k 0)
theorem Num.nil {zs : List Int} {i : Nat} (h : i ≤ zs.length) : Num zs i i := ⟨Nat.le_refl _, h, fun k a b => by omega⟩
theorem Num.next {zs : List Int} {i j : Nat} (h : Num zs i j) (hj : j < zs.length) (hc : isNumB (zs.getD j 0)) : Num zs i (j + 1) := by
  refine ⟨by have := h.1; omega, by omega, fun k a b => ?_⟩
  by_cases hk : k < j
  · exact h.2.2 k a hk
  · obtain rfl : k = j := by omega
    exact hc
theorem Num.ans {zs : List Int} {i j : Nat} (h : Num zs i j) (hij : i < j) : Ans zs i j :=
  .inr ⟨j, rfl, hij, h.2.1, .inr (.inr fun k a b => (h.2.2 k a b).lit)⟩

/-- All of [i, j) are white space. -/
def Wss (zs : List Int) (i j : Nat) : Prop := i ≤ j ∧ j ≤ zs.length ∧ ∀ k, i ≤ k → k < j → isWs (zs.getD k 0) = true
theorem Wss.nil {zs : List Int} {i : Nat} (h : i ≤ zs.length) : Wss zs i i := ⟨Nat.le_refl _, h, fun k a b => by omega⟩
theorem Wss.next {zs : List Int} {i j : Nat} (h : Wss zs i j) (hj : j < zs.length) (hc : isWs (zs.getD j 0) = true) : Wss zs i (j + 1) := by
  refine ⟨by have := h.1; omega, by omega, fun k a b => ?_⟩
  by_cases hk : k < j
  · exact h.2.2 k a hk
  · obtain rfl : k = j := by omega
    exact hc
theorem Wss.bal {zs : List Int} {i j : Nat} (h : Wss zs i j) : Bal zs i j := Bal.all h.1 h.2.1 (fun k a b => ws_oth (h.2.2 k a b))

end Go.Proofs.Qxb6604001a
