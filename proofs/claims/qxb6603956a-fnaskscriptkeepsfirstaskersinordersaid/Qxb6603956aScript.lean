/- THE PLAIN LAW OF THE SCRIPT: the askers are the distinct participants in the order of their first request. -/
import Derived.Test.Qxb6603956aPlain
namespace Go.Proofs.Qxb6603956a
set_option linter.unusedVariables false

def okF (f : Int) : Bool := decide (0 ≤ f) && decide (f ≤ 1048576)
def stepAM (s : List Int × List Int) (f : Int) : List Int × List Int := if okF f then (askA s.1 s.2 f, askM s.2 f) else s
def runAM (F : List Int) (k : Nat) : List Int × List Int := (F.take k).foldl stepAM ([], [])

theorem okF_iff (f : Int) : okF f = true ↔ 0 ≤ f ∧ f ≤ 1048576 := by simp [okF]

theorem take_snoc' (F : List Int) (k : Nat) (h : k < F.length) : F.take (k + 1) = F.take k ++ [F.getD k 0] := by
  rw [List.take_succ_eq_append_getElem h]; simp [List.getElem?_eq_getElem h]

theorem runAM_succ (F : List Int) (k : Nat) (h : k < F.length) : runAM F (k + 1) = stepAM (runAM F k) (F.getD k 0) := by
  unfold runAM
  rw [take_snoc' F k h, List.foldl_append]
  rfl
theorem runAM_zero (F : List Int) : runAM F 0 = ([], []) := rfl

structure Inv (F : List Int) (k : Nat) (A M : List Int) : Prop where
  cons : Cons A M
  wds : Wds M
  la : A.length ≤ k
  lm : M.length ≤ 16385
  mem : ∀ x, x ∈ A ↔ (okF x = true ∧ x ∈ F.take k)

theorem inv_run (F : List Int) (k : Nat) (hk : k ≤ F.length) : Inv F k (runAM F k).1 (runAM F k).2 := by
  induction k with
  | zero =>
    rw [runAM_zero]
    exact ⟨cons_nil, by intro y hy; simp at hy, by simp, by simp, by simp⟩
  | succ k ih =>
    have I := ih (by omega)
    rw [runAM_succ F k (by omega)]
    generalize runAM F k = s at *
    obtain ⟨A, M⟩ := s
    unfold stepAM
    by_cases h : okF (F.getD k 0) = true
    · rw [if_pos h]
      obtain ⟨h0, h1⟩ := (okF_iff _).1 h
      have hA := askHad_iff I.cons I.wds (F.getD k 0) h0
      refine ⟨ask_cons I.cons I.wds _ h0, askM_wds _ I.wds _ h0, ?_, ?_, ?_⟩
      · show (askA A M _).length ≤ _
        unfold askA
        have : A.length ≤ k := I.la
        split <;> simp <;> omega
      · show (askM M _).length ≤ _
        rw [askM_length]
        have : M.length ≤ 16385 := I.lm
        omega
      · intro x
        show x ∈ askA A M _ ↔ _
        rw [take_snoc' F k (by omega), List.mem_append, List.mem_singleton]
        unfold askA
        have hm := I.mem x
        split
        · rename_i hh
          have hin := (I.mem _).1 (hA.1 hh)
          rw [hm]
          constructor
          · rintro ⟨a, b⟩; exact ⟨a, .inl b⟩
          · rintro ⟨a, b | b⟩
            · exact ⟨a, b⟩
            · subst b; exact hin
        · rw [List.mem_append, List.mem_singleton, hm]
          constructor
          · rintro (⟨a, b⟩ | b)
            · exact ⟨a, .inl b⟩
            · subst b; exact ⟨h, .inr rfl⟩
          · rintro ⟨a, b | b⟩
            · exact .inl ⟨a, b⟩
            · exact .inr b
    · rw [if_neg h]
      refine ⟨I.cons, I.wds, Nat.le_succ_of_le I.la, I.lm, fun x => ?_⟩
      rw [take_snoc' F k (by omega), List.mem_append, List.mem_singleton]
      have hm := I.mem x
      rw [hm]
      constructor
      · rintro ⟨a, b⟩; exact ⟨a, .inl b⟩
      · rintro ⟨a, b | b⟩
        · exact ⟨a, b⟩
        · subst b; exact absurd a h

/-- What round k does to the askers. -/
theorem run_skip (F : List Int) (k : Nat) (hk : k < F.length) (h : okF (F.getD k 0) = false) : runAM F (k + 1) = runAM F k := by
  rw [runAM_succ F k hk, stepAM, if_neg (by rw [h]; decide)]
theorem run_ask (F : List Int) (k : Nat) (hk : k < F.length) (h : okF (F.getD k 0) = true) : runAM F (k + 1) = (askA (runAM F k).1 (runAM F k).2 (F.getD k 0), askM (runAM F k).2 (F.getD k 0)) := by
  rw [runAM_succ F k hk, stepAM, if_pos h]
theorem run_seen (F : List Int) (k : Nat) (hk : k < F.length) (h : okF (F.getD k 0) = true) (hs : F.getD k 0 ∈ F.take k) : (runAM F (k + 1)).1 = (runAM F k).1 := by
  have I := inv_run F k (by omega)
  rw [run_ask F k hk h]
  show askA _ _ _ = _
  unfold askA
  rw [if_pos ((askHad_iff I.cons I.wds _ ((okF_iff _).1 h).1).2 ((I.mem _).2 ⟨h, hs⟩))]
theorem run_new (F : List Int) (k : Nat) (hk : k < F.length) (h : okF (F.getD k 0) = true) (hs : F.getD k 0 ∉ F.take k) : (runAM F (k + 1)).1 = (runAM F k).1 ++ [F.getD k 0] := by
  have I := inv_run F k (by omega)
  rw [run_ask F k hk h]
  show askA _ _ _ = _
  unfold askA
  rw [if_neg]
  intro hh
  exact hs ((I.mem _).1 ((askHad_iff I.cons I.wds _ ((okF_iff _).1 h).1).1 hh)).2

theorem run_prefix1 (F : List Int) (k : Nat) (hk : k < F.length) : (runAM F k).1 <+: (runAM F (k + 1)).1 := by
  cases h : okF (F.getD k 0)
  · rw [run_skip F k hk h]; exact List.prefix_refl _
  · by_cases hs : F.getD k 0 ∈ F.take k
    · rw [run_seen F k hk h hs]; exact List.prefix_refl _
    · rw [run_new F k hk h hs]; exact List.prefix_append _ _
theorem run_prefix (F : List Int) (d k : Nat) (hk : k + d ≤ F.length) : (runAM F k).1 <+: (runAM F (k + d)).1 := by
  induction d with
  | zero => exact List.prefix_refl _
  | succ d ih => exact List.IsPrefix.trans (ih (by omega)) (run_prefix1 F (k + d) (by omega))

/-- Behind round k, where a new asker came: the askers' place (runAM F k).1.length holds it. -/
theorem run_at (F : List Int) (k : Nat) (hk : k < F.length) (h : okF (F.getD k 0) = true) (hs : F.getD k 0 ∉ F.take k) :
    (runAM F k).1.length < (runAM F F.length).1.length ∧ (runAM F F.length).1.getD (runAM F k).1.length 0 = F.getD k 0 := by
  have hp := run_prefix F (F.length - (k + 1)) (k + 1) (by omega)
  rw [show k + 1 + (F.length - (k + 1)) = F.length by omega, run_new F k hk h hs] at hp
  obtain ⟨t, ht⟩ := hp
  rw [← ht]
  constructor
  · simp
  · simp

theorem mem_take_iff (F : List Int) (i : Nat) (x : Int) (hi : i ≤ F.length) : x ∈ F.take i ↔ ∃ j, j < i ∧ F.getD j 0 = x := by
  rw [List.mem_take_iff_getElem]
  constructor
  · rintro ⟨j, hj, rfl⟩
    refine ⟨j, by omega, ?_⟩
    simp [List.getElem?_eq_getElem (show j < F.length by omega)]
  · rintro ⟨j, hj, rfl⟩
    refine ⟨j, by omega, ?_⟩
    simp [List.getElem?_eq_getElem (show j < F.length by omega)]

end Go.Proofs.Qxb6603956a
