/- THE PLAIN LAW OF QUOTING: what is written, what a strict reader takes. No Go in sight. -/
namespace Go.Proofs.Qxb6603961a
set_option linter.unusedVariables false

def hexAt (n : Nat) : UInt8 := if n < 10 then UInt8.ofNat (48 + n) else UInt8.ofNat (87 + n)
/-- What one byte is written as. -/
def enc (c : UInt8) : List UInt8 :=
  if c = 34 ∨ c = 92 then [92, c] else if c = 10 then [92, 110] else if c = 13 then [92, 114] else if c = 9 then [92, 116]
  else if c.toNat < 32 then [92, 117, 48, 48, hexAt (c.toNat / 16), hexAt (c.toNat % 16)] else [c]
def isPlain (c : UInt8) : Bool := decide (32 ≤ c.toNat) && decide (c ≠ 34) && decide (c ≠ 92)
def encs (l : List UInt8) : List UInt8 := l.flatMap enc

theorem enc_plain {c : UInt8} (h : isPlain c = true) : enc c = [c] := by
  simp [isPlain] at h
  obtain ⟨⟨h1, h2⟩, h3⟩ := h
  have h10 : c ≠ 10 := by rintro rfl; exact absurd h1 (by decide)
  have h13 : c ≠ 13 := by rintro rfl; exact absurd h1 (by decide)
  have h9 : c ≠ 9 := by rintro rfl; exact absurd h1 (by decide)
  unfold enc
  rw [if_neg (by simp [h2, h3]), if_neg h10, if_neg h13, if_neg h9, if_neg (by omega)]
theorem enc_pair {c : UInt8} (h : c = 34 ∨ c = 92) : enc c = [92, c] := by unfold enc; rw [if_pos h]
theorem enc_n : enc 10 = [92, 110] := by decide
theorem enc_r : enc 13 = [92, 114] := by decide
theorem enc_t : enc 9 = [92, 116] := by decide
theorem enc_u {c : UInt8} (h : c.toNat < 32) (h10 : c ≠ 10) (h13 : c ≠ 13) (h9 : c ≠ 9) : enc c = [92, 117, 48, 48, hexAt (c.toNat / 16), hexAt (c.toNat % 16)] := by
  have h34 : c ≠ 34 := by rintro rfl; exact absurd h (by decide)
  have h92 : c ≠ 92 := by rintro rfl; exact absurd h (by decide)
  unfold enc
  rw [if_neg (by simp [h34, h92]), if_neg h10, if_neg h13, if_neg h9, if_pos h]
theorem enc_length (c : UInt8) : 1 ≤ (enc c).length ∧ (enc c).length ≤ 6 := by
  unfold enc
  split
  · exact ⟨by simp, by simp⟩
  · split
    · exact ⟨by simp, by simp⟩
    · split
      · exact ⟨by simp, by simp⟩
      · split
        · exact ⟨by simp, by simp⟩
        · split
          · exact ⟨by simp, by simp⟩
          · exact ⟨by simp, by simp⟩

theorem encs_nil : encs [] = [] := rfl
theorem encs_cons (c : UInt8) (l : List UInt8) : encs (c :: l) = enc c ++ encs l := rfl
theorem encs_append (a b : List UInt8) : encs (a ++ b) = encs a ++ encs b := by simp [encs]
theorem encs_plain (l : List UInt8) (h : ∀ c ∈ l, isPlain c = true) : encs l = l := by
  induction l with
  | nil => rfl
  | cons c l ih =>
    rw [encs_cons, enc_plain (h c (by simp)), ih (fun x hx => h x (by simp [hx]))]; rfl
theorem encs_length (l : List UInt8) : l.length ≤ (encs l).length ∧ (encs l).length ≤ 6 * l.length := by
  induction l with
  | nil => exact ⟨by simp [encs], by simp [encs]⟩
  | cons c l ih =>
    have := enc_length c
    rw [encs_cons, List.length_append, List.length_cons]
    omega

/-- A hexadecimal digit, read. -/
def hexVal (c : Nat) : Nat := if c ≤ 57 then c - 48 else c - 87
theorem hexAt_val (n : Nat) (h : n < 16) : hexVal (hexAt n).toNat = n ∧ ((48 ≤ (hexAt n).toNat ∧ (hexAt n).toNat ≤ 57) ∨ (97 ≤ (hexAt n).toNat ∧ (hexAt n).toNat ≤ 102)) := by
  have : ∀ n, n < 16 → hexVal (hexAt n).toNat = n ∧ ((48 ≤ (hexAt n).toNat ∧ (hexAt n).toNat ≤ 57) ∨ (97 ≤ (hexAt n).toNat ∧ (hexAt n).toNat ≤ 102)) := by decide
  exact this n h
theorem hexTable (n : Nat) (h : n < 16) : (#[48, 49, 50, 51, 52, 53, 54, 55, 56, 57, 97, 98, 99, 100, 101, 102] : Array UInt8)[n]? = some (hexAt n) := by
  have : ∀ n, n < 16 → (#[48, 49, 50, 51, 52, 53, 54, 55, 56, 57, 97, 98, 99, 100, 101, 102] : Array UInt8)[n]? = some (hexAt n) := by decide
  exact this n h
end Go.Proofs.Qxb6603961a
