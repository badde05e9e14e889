/- FnAskRemembersEachAskerOnce, walked. -/
import Derived.Test.Qxb6603956aKnown
import Derived.Test.Qxb6603956aMore
import Derived.BigQuiet
import Derived.Deep.QuietTactic
namespace Go.Proofs.Qxb6603956a
open Go.RowKit
set_option linter.unusedVariables false

theorem owns_base {w : World} {base base' : Nat} {e : TypeId} {size : Nat} {v : Value} {n : Nat} {xs : List Value} (h : w.ownsRow base e size v n xs) (hb : base' ≤ base) : w.ownsRow base' e size v n xs := by
  refine ⟨h.1, ?_⟩
  rcases h.2 with hn | ⟨g, cap, cur, rfl, hbg, hgg, rest⟩
  · exact .inl hn
  · exact .inr ⟨g, cap, cur, rfl, by omega, hgg, rest⟩
theorem owns_below {w w' : World} {base : Nat} {e : TypeId} {size : Nat} {v : Value} {n : Nat} {xs : List Value} (h : w.ownsRow base e size v n xs) (hb : Below w.heap.size w w') : w'.ownsRow base e size v n xs :=
  owns_of_block h (fun g e => hb.block g (lt_of_heap (owns_block h e).2.choose_spec))
theorem Slc.lower {K : IntKind} {w w' : World} {v : Value} {zs : List Int} (h : Slc K w v zs) {B : Nat} (hB : w.heap.size ≤ B) (hb : Below B w w') : Slc K w' v zs := h.below (hb.mono hB)
theorem Slc.notNil {K : IntKind} {w : World} {v : Value} {zs : List Int} (h : Slc K w v zs) (hz : 0 < zs.length) : isNilS v = false := by
  obtain ⟨a, cap, rfl, hc⟩ := h
  obtain ⟨b, o, rfl, _⟩ := hc 0 hz
  rfl

set_option maxRecDepth 100000 in
set_option maxHeartbeats 4000000 in
theorem once_known (pid vote dec done idle f : Int) (va vw : Value) (A M : List Int) (w : World) (hA : A.length ≤ 65536) (hM : M.length ≤ 65536) (hf0 : 0 ≤ f) (hf1 : f ≤ 1048576)
    (hva : Slc .i64 w va A) (hvw : Slc .u64 w vw M) (hA64 : ∀ x ∈ A, x ≤ 9223372036854775807) (hcons : consGo A M = true) (hd : (dec != 0) = true) :
    Calls Try.prog 6 #[.int .i64 pid, .int .u8 vote, .int .u8 dec, va, vw, .int .i64 done, .int .i64 idle, .int .i64 f] w fun e w' => e = .returned (.bool true) ∧ Below w.heap.size w w' := by
  obtain ⟨a3, c3, rfl, -⟩ := id hva
  obtain ⟨a4, c4, rfl, -⟩ := id hvw
  have Hcons := hideIt hcons
  have HA64 := hideIt hA64
  clear hcons hA64
  have hdec : decide (A.length + M.length ≤ 1048576) = true := by simp; omega
  have Hdec := hideIt hdec
  clear hdec
  go_enter Try.func6, Try.ntmps6
  go_wp2_with fail
  refine (bytes20 pid vote dec done idle f a3 a4 A.length c3 M.length c4 w (by unfold maxLen; omega) (by unfold maxLen; omega)).mono ?_
  rintro e w' ⟨rfl, rfl⟩
  rw [Hdec.out]
  go_wp2_with fail
  refine (cons_any _ _ A M _ (by omega) (by omega) HA64.out hva hvw).mono ?_
  rintro e wA ⟨rfl, hbA⟩
  rw [Hcons.out]
  replace hva := hva.below hbA
  replace hvw := hvw.below hbA
  go_wp2_with fail
  refine (clone19_any _ A wA (by omega) hva).mono ?_
  rintro e wB ⟨v3, rfl, ho3, hbB, hn3⟩
  replace hvw := hvw.below hbB
  have s3 := Slc.own ho3
  obtain ⟨a3', c3', hv3, -⟩ := id s3
  subst hv3
  clear ho3 hva
  go_wp2_with fail
  refine (clone22_any _ M wB (by omega) hvw).mono ?_
  rintro e wC ⟨v4, rfl, ho4, hbC, hn4⟩
  replace s3 := s3.below hbC
  have s4 := Slc.own ho4
  obtain ⟨a4', c4', hv4, -⟩ := id s4
  subst hv4
  clear ho4 hvw
  go_wp2_with fail
  refine (clone19_any _ A wC (by omega) s3).mono ?_
  rintro e wD ⟨v17, rfl, ho17, hbD, hn17⟩
  have s4D := s4.below hbD
  obtain ⟨a17, c17, hv17, -⟩ := Slc.own ho17
  subst hv17
  go_wp2_with fail
  refine (clone22_any _ M wD (by omega) s4D).mono ?_
  rintro e wE ⟨v18, rfl, ho18, hbE, hn18⟩
  obtain ⟨a18, c18, hv18, -⟩ := Slc.own ho18
  subst hv18
  have s17 := (Slc.own ho17).below hbE
  have s18 := Slc.own ho18
  have s3E := (s3.below hbD).below hbE
  have s4E := s4D.below hbE
  have hbWE : Below w'.heap.size w' wE := hbA.trans ((hbB.mono hbA.size).trans ((hbC.mono (Nat.le_trans hbA.size hbB.size)).trans ((hbD.mono (Nat.le_trans hbA.size (Nat.le_trans hbB.size hbC.size))).trans (hbE.mono (Nat.le_trans hbA.size (Nat.le_trans hbB.size (Nat.le_trans hbC.size hbD.size)))))))
  have hszE : w'.heap.size ≤ wE.heap.size := hbWE.size
  clear s3 s4 s4D ho17 ho18 hbA hbB hbC hbD hbE hn3 hn4
  go_wp2_with fail
  refine (zzask_known pid vote dec done idle f a17 a18 A.length c17 M.length c18 wE hd).mono ?_
  rintro e wF ⟨g, rfl, hmsg, hbF⟩
  replace s17 := s17.below hbF
  replace s18 := s18.below hbF
  replace s3E := s3E.below hbF
  replace s4E := s4E.below hbF
  have hbWF : Below w'.heap.size w' wF := hbWE.trans (hbF.mono hszE)
  have hgl := lt_of_heap hmsg
  clear hbWE hbF
  have m0 : wF.cell? ⟨g, 0, none⟩ = some (.int .i64 pid) := by simp [World.cell?, hmsg, msgOf]
  have m1 : wF.cell? ⟨g, 1, none⟩ = some (.int .i64 f) := by simp [World.cell?, hmsg, msgOf]
  have m2 : wF.cell? ⟨g, 2, none⟩ = some (.int .u8 2) := by simp [World.cell?, hmsg, msgOf]
  have m3 : wF.cell? ⟨g, 3, none⟩ = some (.int .u8 0) := by simp [World.cell?, hmsg, msgOf]
  have m4 : wF.cell? ⟨g, 4, none⟩ = some (.int .u8 dec) := by simp [World.cell?, hmsg, msgOf]
  have m5 : wF.cell? ⟨g, 5, none⟩ = some (.int .i32 0) := by simp [World.cell?, hmsg, msgOf]
  have m6 : wF.cell? ⟨g, 6, none⟩ = some (.int .i32 0) := by simp [World.cell?, hmsg, msgOf]
  have m7 : wF.cell? ⟨g, 7, none⟩ = some (.int .i32 0) := by simp [World.cell?, hmsg, msgOf]
  have m8 : wF.cell? ⟨g, 8, none⟩ = some (.int .i32 0) := by simp [World.cell?, hmsg, msgOf]
  have HM := hideIt hmsg
  clear hmsg
  simp only [stepK]
  go_wp2_with fail
  go_quiet (fail)
  go_wp2_with fail
  have hbG : ∀ (X Y : Obj) (n : Nat), Below wF.heap.size wF (((wF.alloc X).alloc Y).drewN n) := fun X Y n => below_drewN (((Below.refl _ _).alloc (Nat.le_refl _) _).alloc (by simp) _) _
  refine (same24 _ _ A _ (by omega) (s17.below (hbG _ _ _)) (s3E.below (hbG _ _ _)) hn17).mono ?_
  rintro e wG ⟨rfl, n1, rfl⟩
  go_wp2_with fail
  refine (same25 _ _ M _ (by omega) (s18.below (hbG _ _ _)) (s4E.below (hbG _ _ _)) hn18).mono ?_
  rintro e wG ⟨rfl, n2, rfl⟩
  go_wp2
  go_ret
  exact ⟨rfl, hbWF.trans ((hbG _ _ _).mono hbWF.size)⟩
set_option maxRecDepth 100000 in
set_option maxHeartbeats 4000000 in
theorem once_open (pid vote done idle f : Int) (va vw : Value) (A M : List Int) (w : World) (hA : A.length ≤ 65536) (hM : M.length ≤ 65536) (hf0 : 0 ≤ f) (hf1 : f ≤ 1048576)
    (hva : Slc .i64 w va A) (hvw : Slc .u64 w vw M) (hA64 : ∀ x ∈ A, x ≤ 9223372036854775807) (hcons : consGo A M = true) (hMw : Wds M) :
    Calls Try.prog 6 #[.int .i64 pid, .int .u8 vote, .int .u8 0, va, vw, .int .i64 done, .int .i64 idle, .int .i64 f] w fun e w' => e = .returned (.bool true) ∧ Below w.heap.size w w' := by
  obtain ⟨a3, c3, rfl, -⟩ := id hva
  obtain ⟨a4, c4, rfl, -⟩ := id hvw
  have Hcons := hideIt hcons
  have HA64 := hideIt hA64
  clear hcons hA64
  have hdec : decide (A.length + M.length ≤ 1048576) = true := by simp; omega
  have Hdec := hideIt hdec
  clear hdec
  go_enter Try.func6, Try.ntmps6
  go_wp2_with fail
  refine (bytes20 pid vote 0 done idle f a3 a4 A.length c3 M.length c4 w (by unfold maxLen; omega) (by unfold maxLen; omega)).mono ?_
  rintro e w' ⟨rfl, rfl⟩
  rw [Hdec.out]
  go_wp2_with fail
  refine (cons_any _ _ A M _ (by omega) (by omega) HA64.out hva hvw).mono ?_
  rintro e wA ⟨rfl, hbA⟩
  rw [Hcons.out]
  replace hva := hva.below hbA
  replace hvw := hvw.below hbA
  go_wp2_with fail
  refine (clone19_any _ A wA (by omega) hva).mono ?_
  rintro e wB ⟨v3, rfl, ho3, hbB, hn3⟩
  replace hvw := hvw.below hbB
  have s3 := Slc.own ho3
  obtain ⟨a3', c3', hv3, -⟩ := id s3
  subst hv3
  clear ho3 hva
  go_wp2_with fail
  refine (clone22_any _ M wB (by omega) hvw).mono ?_
  rintro e wC ⟨v4, rfl, ho4, hbC, hn4⟩
  replace s3 := s3.below hbC
  have s4 := Slc.own ho4
  obtain ⟨a4', c4', hv4, -⟩ := id s4
  subst hv4
  clear ho4 hvw
  go_wp2_with fail
  refine (clone19_any _ A wC (by omega) s3).mono ?_
  rintro e wD ⟨v17, rfl, ho17, hbD, hn17⟩
  have s4D := s4.below hbD
  obtain ⟨a17, c17, hv17, -⟩ := Slc.own ho17
  subst hv17
  go_wp2_with fail
  refine (clone22_any _ M wD (by omega) s4D).mono ?_
  rintro e wE ⟨v18, rfl, ho18, hbE, hn18⟩
  obtain ⟨a18, c18, hv18, -⟩ := Slc.own ho18
  subst hv18
  have o17 := owns_below ho17 hbE
  have o18 := owns_base ho18 hbD.size
  have hbCE : Below wC.heap.size wC wE := hbD.trans (hbE.mono hbD.size)
  have hWC : w'.heap.size ≤ wC.heap.size := Nat.le_trans hbA.size (Nat.le_trans hbB.size hbC.size)
  have hbWE : Below w'.heap.size w' wE := hbA.trans ((hbB.mono hbA.size).trans ((hbC.mono (Nat.le_trans hbA.size hbB.size)).trans ((hbD.mono (Nat.le_trans hbA.size (Nat.le_trans hbB.size hbC.size))).trans (hbE.mono (Nat.le_trans hbA.size (Nat.le_trans hbB.size (Nat.le_trans hbC.size hbD.size)))))))
  have hszE : w'.heap.size ≤ wE.heap.size := hbWE.size
  clear s4D ho17 ho18 hbA hbB hbC hbD hbE hn3 hn4
  have hcs := (consGo_iff A M hMw).1 Hcons.out
  have hiff := askHad_iff hcs hMw f hf0
  have hc2 := ask_cons hcs hMw f hf0
  have hm2 := askM_wds M hMw f hf0
  have HG2 : Hid (consGo (askA A M f) (askM M f) = true) := (consGo_iff _ _ hm2).2 hc2
  have Hlen := hideIt (askM_length M f)
  have HA2 : Hid (∀ x ∈ askA A M f, x ≤ 9223372036854775807) := fun x hx => by
    unfold askA at hx
    split at hx
    · exact HA64.out x hx
    · rcases List.mem_append.1 hx with h | h
      · exact HA64.out x h
      · simp at h; omega
  have Hiff := hideIt hiff
  have HAh := hideIt (@askA_had A M f)
  have HAn := hideIt (@askA_new A M f)
  obtain ⟨A', hA'⟩ : ∃ x, x = askA A M f := ⟨_, rfl⟩
  obtain ⟨M', hM'⟩ : ∃ x, x = askM M f := ⟨_, rfl⟩
  rw [← hA', ← hM'] at HG2
  rw [← hA'] at HA2 HAh HAn
  rw [← hM'] at Hlen
  have HA' := hideIt hA'
  have HM' := hideIt hM'
  have hl1 : A'.length ≤ 65537 := by rw [hA']; unfold askA; split <;> (try rw [List.length_append, List.length_singleton]) <;> omega
  have hl2 : M'.length ≤ 65536 := by rw [Hlen.out]; omega
  clear hcs hiff hc2 hm2 hA' hM' hMw
  go_wp2_with fail
  refine (zzask_any pid vote done idle f _ _ A M wC.heap.size wE o17 o18 hbCE.size hf0 hf1 (by omega) (by omega)).mono ?_
  rintro e wF ⟨va', vw', rfl, oa, om, hbF⟩
  rw [← HA'.out] at oa
  rw [← HM'.out] at om
  have sa := Slc.own oa
  have sm := Slc.own om
  obtain ⟨a5, c5, hv5, hc5⟩ := id sa
  obtain ⟨a6, c6, hv6, -⟩ := id sm
  subst hv5 hv6
  have hbCF : Below wC.heap.size wC wF := hbCE.trans hbF
  have s3F := s3.below hbCF
  have s4F := s4.below hbCF
  have hbWF : Below w'.heap.size w' wF := hbWE.trans (hbF.mono hWC)
  clear o17 o18 oa om hbCE hbF hbCF hbWE s3 s4 HA' HM'
  simp only [step0]
  go_wp2_with fail
  have hbG : ∀ (X : Obj), Below wF.heap.size wF (wF.alloc X) := fun X => (Below.refl _ _).alloc (Nat.le_refl _) _
  refine (has_any _ A f _ (by omega) (s3F.below (hbG _))).mono ?_
  rintro e wG ⟨rfl, rfl⟩
  by_cases hfA : f ∈ A
  · rw [show decide (f ∈ A) = true by simp [hfA]]
    have hhad := Hiff.out.2 hfA
    have hAA := HAh.out hhad
    subst hAA
    have hpos : 0 < A'.length := List.length_pos_of_mem hfA
    clear hfA hhad
    go_wp2_with fail
    refine (same24 _ _ A' _ (by omega) (sa.below (hbG _)) (s3F.below (hbG _)) (by rw [sa.notNil hpos, s3F.notNil hpos])).mono ?_
    rintro e wG ⟨rfl, n1, rfl⟩
    have hbH : ∀ (X : Obj) (n : Nat), Below wF.heap.size wF ((wF.alloc X).drewN n) := fun X n => below_drewN (hbG X) n
    by_cases hgw : (M.length : Int) < f / 64 + 1
    · have hw1 : (M'.length : Int) ≤ f / 64 + 1 := by rw [Hlen.out]; omega
      have hw2 : f / 64 + 1 ≤ (M'.length : Int) := by rw [Hlen.out]; omega
      go_wp2_with fail
      refine (cons_any _ _ A' M' _ (by omega) (by omega) HA2.out (sa.below (hbH _ _)) (sm.below (hbH _ _))).mono ?_
      rintro e wH ⟨rfl, hbX⟩
      rw [HG2.out]
      go_wp2
      go_ret
      exact ⟨rfl, hbWF.trans (((hbH _ _).mono hbWF.size).trans (hbX.mono (Nat.le_trans hbWF.size (hbH _ _).size)))⟩
    · have hw1 : (M'.length : Int) ≤ (M.length : Int) := by rw [Hlen.out]; omega
      have hw2 : (M.length : Int) ≤ (M'.length : Int) := by rw [Hlen.out]; omega
      go_wp2_with fail
      refine (cons_any _ _ A' M' _ (by omega) (by omega) HA2.out (sa.below (hbH _ _)) (sm.below (hbH _ _))).mono ?_
      rintro e wH ⟨rfl, hbX⟩
      rw [HG2.out]
      go_wp2
      go_ret
      exact ⟨rfl, hbWF.trans (((hbH _ _).mono hbWF.size).trans (hbX.mono (Nat.le_trans hbWF.size (hbH _ _).size)))⟩
  · rw [show decide (f ∈ A) = false by simp [hfA]]
    have hnew : askHad M f = false := by
      cases h : askHad M f
      · rfl
      · exact absurd (Hiff.out.1 h) hfA
    have hAA := HAn.out hnew
    have HAA := hideIt hAA
    have hl3 : A'.length = A.length + 1 := by rw [hAA]; simp
    have hl4 : (A'.length : Int) ≤ (A.length : Int) + 1 := by omega
    have hl5 : (A.length : Int) + 1 ≤ (A'.length : Int) := by omega
    have hl6 : A.length < A'.length := by omega
    obtain ⟨b5, o5, ha5, hcl, hbb5⟩ := hc5 A.length (by omega)
    have hcl' : wF.cell? ⟨b5, o5 + A.length, none⟩ = some (.int .i64 f) := by
      rw [hcl, HAA.out]; simp
    have HAi : Hid (∀ i, i < A.length → A'.getD i 0 = A.getD i 0) := fun i hi => by
      rw [HAA.out]; simp [List.getElem?_append_left hi]
    have Hl3 := hideIt hl3
    subst ha5
    have HC5 := hideIt hc5
    obtain ⟨a3x, c3x, h3x, hc3⟩ := id s3F
    simp only [Value.slice.injEq, true_and] at h3x
    obtain ⟨rfl, rfl⟩ := h3x
    have HC3 := hideIt hc3
    clear hl3 hAA hnew hfA hcl hc5 hc3
    have hcl2 : ∀ X : Obj, (wF.alloc X).cell? ⟨b5, o5 + A.length, none⟩ = some (.int .i64 f) := fun X => ((hbG X).cell (p := ⟨b5, o5 + A.length, none⟩) hbb5).trans hcl'
    go_wp2
    have hbG1 := hbG (Obj.cells #[Value.slice none 0 0, Value.int IntKind.u8 0, Value.pointer none, Value.bool false] 54)
    clear hbG hcl2 hcl'
    generalize wF.alloc (Obj.cells #[Value.slice none 0 0, Value.int IntKind.u8 0, Value.pointer none, Value.bool false] 54) = wG at *
    have hbH : ∀ (n : Nat), Below wF.heap.size wF (wG.drewN n) := fun n => below_drewN hbG1 n
    go_loopw [28] (fun i wr => ∃ k : Nat, k ≤ A.length ∧ i = .int .i64 k ∧ ∃ n, wr = wG.drewN n) (fun i _ => A.length - (intOf i).toNat)
    case atStart => exact ⟨0, Nat.zero_le _, rfl, 0, rfl⟩
    case round =>
      obtain ⟨k, hk, rfl, n, rfl⟩ := hrel
      by_cases hlt : k < A.length
      · obtain ⟨b3, o3, rfl, hcell1, hbb3⟩ := HC3.out k hlt
        obtain ⟨b5', o5', hbo, hcell2, -⟩ := HC5.out k (by omega)
        simp only [Option.some.injEq, Addr.mk.injEq, and_true] at hbo
        obtain ⟨rfl, rfl⟩ := hbo
        have g1 : wG.cell? ⟨b3, o3 + k, none⟩ = some (.int .i64 (A.getD k 0)) := (hbG1.cell (p := ⟨b3, o3 + k, none⟩) hbb3).trans hcell1
        have g2 : wG.cell? ⟨b5, o5 + k, none⟩ = some (.int .i64 (A.getD k 0)) := by
          rw [hbG1.cell (p := ⟨b5, o5 + k, none⟩) hbb5, hcell2, HAi.out k hlt]
        obtain ⟨y, hy⟩ : ∃ y, y = A.getD k 0 := ⟨_, rfl⟩
        rw [← hy] at g1 g2
        have hki : (k : Int) < (A.length : Int) := by omega
        have hki2 : (k : Int) < (A'.length : Int) := by omega
        clear hcell1 hcell2 hy
        go_wp2
        go_quiet (fail)
        go_wp2
        go_roundw
        case rel => exact ⟨k + 1, by omega, by go_num, n + nq, by simp⟩
        case measure => simp [intOf]; omega
      ·
        by_cases hgw : (M.length : Int) < f / 64 + 1
        · have hw1 : (M'.length : Int) ≤ f / 64 + 1 := by rw [Hlen.out]; omega
          have hw2 : f / 64 + 1 ≤ (M'.length : Int) := by rw [Hlen.out]; omega
          go_wp2_with fail
          refine (cons_any _ _ A' M' _ (by omega) (by omega) HA2.out (sa.below (hbH _)) (sm.below (hbH _))).mono ?_
          rintro e wH ⟨rfl, hbX⟩
          rw [HG2.out]
          go_wp2
          go_ret
          exact ⟨rfl, hbWF.trans (((hbH _).mono hbWF.size).trans (hbX.mono (Nat.le_trans hbWF.size (hbH _).size)))⟩
        · have hw1 : (M'.length : Int) ≤ (M.length : Int) := by rw [Hlen.out]; omega
          have hw2 : (M.length : Int) ≤ (M'.length : Int) := by rw [Hlen.out]; omega
          go_wp2_with fail
          refine (cons_any _ _ A' M' _ (by omega) (by omega) HA2.out (sa.below (hbH _)) (sm.below (hbH _))).mono ?_
          rintro e wH ⟨rfl, hbX⟩
          rw [HG2.out]
          go_wp2
          go_ret
          exact ⟨rfl, hbWF.trans (((hbH _).mono hbWF.size).trans (hbX.mono (Nat.le_trans hbWF.size (hbH _).size)))⟩

set_option maxRecDepth 100000 in
set_option maxHeartbeats 1000000 in
theorem once_early (pid vote dec done idle f : Int) (a3 a4 : Option Addr) (l3 c3 l4 c4 : Nat) (w : World) (h3 : l3 ≤ maxLen) (h4 : l4 ≤ maxLen) (h : 65536 < l3 ∨ 65536 < l4 ∨ f < 0 ∨ 1048576 < f) :
    Calls Try.prog 6 #[.int .i64 pid, .int .u8 vote, .int .u8 dec, .slice a3 l3 c3, .slice a4 l4 c4, .int .i64 done, .int .i64 idle, .int .i64 f] w fun e w' => e = .returned (.bool true) ∧ Below w.heap.size w w' := by
  have h3' : l3 ≤ 9223372036854775807 := by unfold maxLen at h3; omega
  have h4' : l4 ≤ 9223372036854775807 := by unfold maxLen at h4; omega
  go_enter Try.func6, Try.ntmps6
  go_wp2_with fail
  refine (bytes20 pid vote dec done idle f a3 a4 l3 c3 l4 c4 w h3 h4).mono ?_
  rintro e w' ⟨rfl, rfl⟩
  cases hd : decide (l3 + l4 ≤ 1048576)
  · go_wp2
    go_ret
    exact ⟨rfl, Below.refl _ _⟩
  · clear hd
    by_cases e1 : 65536 < l3
    · go_wp2
      go_ret
      exact ⟨rfl, Below.refl _ _⟩
    · by_cases e2 : 65536 < l4
      · go_wp2
        go_ret
        exact ⟨rfl, Below.refl _ _⟩
      · by_cases e3 : f < 0
        · clear h
          go_wp2
          go_ret
          exact ⟨rfl, Below.refl _ _⟩
        · have e4 : 1048576 < f := by omega
          clear h
          go_wp2
          go_ret
          exact ⟨rfl, Below.refl _ _⟩

set_option maxRecDepth 100000 in
set_option maxHeartbeats 1000000 in
theorem once_not (pid vote dec done idle f : Int) (va vw : Value) (A M : List Int) (w : World) (hA : A.length ≤ 65536) (hM : M.length ≤ 65536) (hf0 : 0 ≤ f) (hf1 : f ≤ 1048576)
    (hva : Slc .i64 w va A) (hvw : Slc .u64 w vw M) (hA64 : ∀ x ∈ A, x ≤ 9223372036854775807) (hcons : consGo A M = false) :
    Calls Try.prog 6 #[.int .i64 pid, .int .u8 vote, .int .u8 dec, va, vw, .int .i64 done, .int .i64 idle, .int .i64 f] w fun e w' => e = .returned (.bool true) ∧ Below w.heap.size w w' := by
  obtain ⟨a3, c3, rfl, -⟩ := id hva
  obtain ⟨a4, c4, rfl, -⟩ := id hvw
  have Hcons := hideIt hcons
  have HA64 := hideIt hA64
  clear hcons hA64
  have hdec : decide (A.length + M.length ≤ 1048576) = true := by simp; omega
  have Hdec := hideIt hdec
  clear hdec
  go_enter Try.func6, Try.ntmps6
  go_wp2_with fail
  refine (bytes20 pid vote dec done idle f a3 a4 A.length c3 M.length c4 w (by unfold maxLen; omega) (by unfold maxLen; omega)).mono ?_
  rintro e w' ⟨rfl, rfl⟩
  rw [Hdec.out]
  go_wp2_with fail
  refine (cons_any _ _ A M _ (by omega) (by omega) HA64.out hva hvw).mono ?_
  rintro e wA ⟨rfl, hbA⟩
  rw [Hcons.out]
  go_wp2
  go_ret
  exact ⟨rfl, hbA⟩

/-- A slice of integers that came in. -/
theorem slc_of_row' {K : IntKind} {w : World} {a : Option Addr} {len cap : Nat} {zs : List Int}
    (h : (a = none ∧ len = 0 ∧ cap = 0 ∧ zs = []) ∨ ∃ x, a = some x ∧ len ≤ cap ∧ cap ≤ maxLen ∧ zs.length = cap ∧ (∀ i, i < zs.length → w.cell? (x.add i) = some (.int K (zs.getD i 0))) ∧ ∀ n ∈ zs, (Lit.int K n).wf = true) :
    len ≤ maxLen ∧ (zs.take len).length = len ∧ Slc K w (.slice a len cap) (zs.take len) ∧ ∀ n ∈ zs.take len, (Lit.int K n).wf = true := by
  rcases h with ⟨rfl, rfl, rfl, rfl⟩ | ⟨x, rfl, hlc, hcm, hz, hcell, hwf⟩
  · exact ⟨by decide, rfl, ⟨none, 0, rfl, fun i hi => by simp at hi⟩, fun n hn => by simp at hn⟩
  · have hl : (zs.take len).length = len := by rw [List.length_take]; omega
    refine ⟨by omega, hl, ⟨some x, cap, by rw [hl], fun i hi => ?_⟩, fun n hn => hwf n (List.mem_of_mem_take hn)⟩
    rw [hl] at hi
    have hc := hcell i (by omega)
    obtain ⟨b, o, spot⟩ := x
    have hspot : spot = none := by simpa [Addr.add] using World.cell?_spot (hcell 0 (by omega))
    subst hspot
    have ha : (⟨b, o, none⟩ : Addr).add i = ⟨b, o + i, none⟩ := by unfold Addr.add; split <;> simp_all
    rw [ha] at hc
    refine ⟨b, o, rfl, ?_, World.block_lt_of_cell? w _ hc⟩
    rw [hc]
    simp [hi]

theorem once_any (pid vote dec done idle f : Int) (a3 a4 : Option Addr) (l3 c3 l4 c4 : Nat) (A M : List Int) (w : World) (h3 : l3 ≤ maxLen) (h4 : l4 ≤ maxLen) (hA : A.length = l3) (hM : M.length = l4)
    (hva : Slc .i64 w (.slice a3 l3 c3) A) (hvw : Slc .u64 w (.slice a4 l4 c4) M) (hA64 : ∀ x ∈ A, x ≤ 9223372036854775807) (hMw : Wds M) :
    Calls Try.prog 6 #[.int .i64 pid, .int .u8 vote, .int .u8 dec, .slice a3 l3 c3, .slice a4 l4 c4, .int .i64 done, .int .i64 idle, .int .i64 f] w fun e w' => e = .returned (.bool true) ∧ Below w.heap.size w w' := by
  by_cases h : 65536 < l3 ∨ 65536 < l4 ∨ f < 0 ∨ 1048576 < f
  · exact once_early pid vote dec done idle f a3 a4 l3 c3 l4 c4 w h3 h4 h
  · cases hc : consGo A M
    · exact once_not pid vote dec done idle f _ _ A M w (by omega) (by omega) (by omega) (by omega) hva hvw hA64 hc
    · by_cases hd : dec = 0
      · subst hd
        exact once_open pid vote done idle f _ _ A M w (by omega) (by omega) (by omega) (by omega) hva hvw hA64 hc hMw
      · exact once_known pid vote dec done idle f _ _ A M w (by omega) (by omega) (by omega) (by omega) hva hvw hA64 hc (by simp [hd])
end Go.Proofs.Qxb6603956a
