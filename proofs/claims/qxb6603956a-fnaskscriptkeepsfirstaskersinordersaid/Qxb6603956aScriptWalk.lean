/- FnAskScriptKeepsFirstAskersInOrder, walked. -/
import Derived.Test.Qxb6603956aZZ
import Derived.Test.Qxb6603956aScript
namespace Go.Proofs.Qxb6603956a
open Go.RowKit
set_option linter.unusedVariables false
set_option maxRecDepth 100000 in
set_option maxHeartbeats 4000000 in
theorem script_core (pid : Int) (v : Value) (F : List Int) (w : World) (hF : F.length ≤ 4096) (hv : Slc .i64 w v F) :
    Calls Try.prog 7 #[.int .i64 pid, v] w fun e w' => e = .returned (.bool true) ∧ Below w.heap.size w w' := by
  obtain ⟨a, cap, rfl, -⟩ := id hv
  go_enter Try.func7, Try.ntmps7
  go_wp2_with fail
  refine (bytes27 pid a F.length cap w (by unfold maxLen; omega)).mono ?_
  rintro e w' ⟨rfl, rfl⟩
  have hd : decide (F.length ≤ 1048576) = true := by simp; omega
  rw [hd]
  clear hd
  go_wp2_with fail
  refine (clone19_any _ F _ (by omega) hv).mono ?_
  rintro e w1 ⟨v', rfl, hown, hb1, -⟩
  have hF1 := Slc.own hown
  obtain ⟨a1, cap1, hv1, hc⟩ := hF1
  subst hv1
  clear hv hown
  go_wp2
  go_loopw [5, 6, 7] (fun va vw i wr => ∃ k : Nat, k ≤ F.length ∧ i = .int .i64 k ∧ wr.ownsRow w1.heap.size 3 1 va (runAM F k).1.length ((runAM F k).1.map (Value.int .i64)) ∧ wr.ownsRow w1.heap.size 77 1 vw (runAM F k).2.length ((runAM F k).2.map (Value.int .u64)) ∧ Below w1.heap.size w1 wr) (fun _ _ i _ => F.length - (intOf i).toNat)
  case atStart => exact ⟨0, Nat.zero_le _, rfl, World.ownsRow_nil _ _ _ _, World.ownsRow_nil _ _ _ _, Below.refl _ _⟩
  case round =>
    obtain ⟨k, hk, rfl, hoa, hom, hb⟩ := hrel
    by_cases hlt : k < F.length
    · obtain ⟨b, o, rfl, hcell, hbb⟩ := hc k hlt
      have g1 : wr.cell? ⟨b, o + k, none⟩ = some (.int .i64 (F.getD k 0)) := (hb.cell (p := ⟨b, o + k, none⟩) hbb).trans hcell
      have Hskip := hideIt (run_skip F k hlt)
      have Hask := hideIt (run_ask F k hlt)
      have I := inv_run F k hk
      obtain ⟨f, hf⟩ : ∃ f, f = F.getD k 0 := ⟨_, rfl⟩
      rw [← hf] at g1 Hskip Hask
      obtain ⟨A, hA⟩ : ∃ A, A = (runAM F k).1 := ⟨_, rfl⟩
      obtain ⟨M, hM⟩ : ∃ A, A = (runAM F k).2 := ⟨_, rfl⟩
      have hR : runAM F k = (A, M) := by rw [hA, hM]
      rw [← hA] at hoa I
      rw [← hM] at hom I
      rw [hR] at Hskip Hask
      have hla : A.length ≤ 4096 := Nat.le_trans I.la (by omega)
      have hlm : M.length ≤ 16385 := I.lm
      clear hA hM hR I hf hc hcell
      by_cases h0 : f < 0
      · have e := Hskip.out (by simp [okF]; omega)
        have He := hideIt e
        clear e Hask Hskip
        go_wp2
        go_roundw
        case rel => exact ⟨k + 1, by omega, by go_num, by rw [He.out]; exact hoa, by rw [He.out]; exact hom, hb⟩
        case measure => simp [intOf]; omega
      · by_cases h1 : 1048576 < f
        · have e := Hskip.out (by simp [okF]; omega)
          have He := hideIt e
          clear e Hask Hskip
          go_wp2
          go_roundw
          case rel => exact ⟨k + 1, by omega, by go_num, by rw [He.out]; exact hoa, by rw [He.out]; exact hom, hb⟩
          case measure => simp [intOf]; omega
        · have e := Hask.out (by simp [okF]; omega)
          have He := hideIt e
          clear e Hask Hskip
          obtain ⟨aa, ca, hva, -⟩ := Slc.own hoa
          obtain ⟨aw, cw, hvw, -⟩ := Slc.own hom
          subst hva hvw
          go_wp2_with fail
          refine (zzask_any pid 1 0 0 f (.slice aa A.length ca) (.slice aw M.length cw) A M w1.heap.size wr hoa hom hb.size (by omega) (by omega) (by omega) (by omega)).mono ?_
          rintro e w2 ⟨va', vw', rfl, hoa2, hom2, hb2⟩
          obtain ⟨aa', ca', hva, -⟩ := Slc.own hoa2
          obtain ⟨aw', cw', hvw, -⟩ := Slc.own hom2
          subst hva hvw
          clear hoa hom g1
          simp only [step0]
          go_wp2
          go_roundw
          case rel => exact ⟨k + 1, by omega, by go_num, by rw [He.out]; exact hoa2.alloc _, by rw [He.out]; exact hom2.alloc _, (hb.trans hb2).alloc (by have := hb.size; have := hb2.size; omega) _⟩
          case measure => simp [intOf]; omega
    · have hk' : k = F.length := by omega
      subst hk'
      have I := inv_run F F.length (Nat.le_refl _)
      have Hat := hideIt (run_at F)
      have Hseen := hideIt (run_seen F)
      have Hnew := hideIt (run_new F)
      have Hskip := hideIt (run_skip F)
      have Hlen : Hid (∀ k, k ≤ F.length → (runAM F k).1.length ≤ k) := fun k hk => (inv_run F k hk).la
      obtain ⟨A, hA⟩ : ∃ A, A = (runAM F F.length).1 := ⟨_, rfl⟩
      obtain ⟨M, hM⟩ : ∃ A, A = (runAM F F.length).2 := ⟨_, rfl⟩
      have HA := hideIt hA
      rw [← hA] at hoa I Hat
      rw [← hM] at hom I
      clear hA hM
      have hcons : consGo A M = true := (consGo_iff A M I.wds).2 I.cons
      have Hcons := hideIt hcons
      have hla : A.length ≤ 4096 := Nat.le_trans I.la (by omega)
      have hlm : M.length ≤ 16385 := I.lm
      have Hmem : Hid (∀ x ∈ A, x ≤ 9223372036854775807) := fun x hx => by
        have := (okF_iff x).1 ((I.mem x).1 hx).1; omega
      clear I hcons
      obtain ⟨aa, ca, hva, hac⟩ := Slc.own hoa
      obtain ⟨aw, cw, hvw, -⟩ := Slc.own hom
      subst hva hvw
      go_wp2
      go_loop [17, 18] (fun kk i => ∃ j : Nat, j ≤ F.length ∧ i = .int .i64 j ∧ kk = .int .i64 ((runAM F j).1.length)) (fun _ i => F.length - (intOf i).toNat)
      case atStart => exact ⟨0, Nat.zero_le _, rfl, rfl⟩
      case round =>
        obtain ⟨j, hj, rfl, rfl⟩ := hrel
        have hlj := Hlen.out j hj
        by_cases hlt : j < F.length
        · obtain ⟨b, o, rfl, hcell, hbb⟩ := hc j hlt
          have g1 : wr.cell? ⟨b, o + j, none⟩ = some (.int .i64 (F.getD j 0)) := (hb.cell (p := ⟨b, o + j, none⟩) hbb).trans hcell
          have Hs := hideIt (Hskip.out j hlt)
          have Hse := hideIt (Hseen.out j hlt)
          have Hne := hideIt (Hnew.out j hlt)
          have Ha := hideIt (Hat.out j hlt)
          have Hmt := hideIt (mem_take_iff F j (F.getD j 0) hj)
          obtain ⟨f, hf⟩ : ∃ f, f = F.getD j 0 := ⟨_, rfl⟩
          rw [← hf] at g1 Hs Hse Hne Ha Hmt
          clear hf hcell
          by_cases h0 : f < 0
          · have He := hideIt (Hs.out (by simp [okF]; omega))
            go_wp2
            go_round
            case rel => exact ⟨j + 1, by omega, by go_num, by rw [He.out]⟩
            case measure => simp [intOf]; omega
          · by_cases h1 : 1048576 < f
            · have He := hideIt (Hs.out (by simp [okF]; omega))
              go_wp2
              go_round
              case rel => exact ⟨j + 1, by omega, by go_num, by rw [He.out]⟩
              case measure => simp [intOf]; omega
            · have hok : okF f = true := by simp [okF]; omega
              have Hok := hideIt hok
              clear hok
              obtain ⟨n, hn⟩ : ∃ n, n = (runAM F j).1.length := ⟨_, rfl⟩
              rw [← hn] at hlj Ha
              have HN := hideIt hn
              rw [← hn]
              clear hn
              go_wp2
              go_loop [20, 21] (fun seen t => ∃ u : Nat, u ≤ j ∧ t = .int .i64 u ∧ seen = .bool false ∧ ∀ i, i < u → F.getD i 0 ≠ f) (fun _ t => j - (intOf t).toNat)
              case atStart => exact ⟨0, Nat.zero_le _, rfl, rfl, fun i hi => absurd hi (by omega)⟩
              case round =>
                obtain ⟨u, hu, rfl, rfl, hno⟩ := hrel
                have Hno := hideIt hno
                clear hno
                by_cases hul : u < j
                · obtain ⟨b', o', hbo, hcell, hbb'⟩ := hc u (by omega)
                  simp only [Option.some.injEq, Addr.mk.injEq, and_true] at hbo
                  obtain ⟨rfl, rfl⟩ := hbo
                  have g2 : wr.cell? ⟨b, o + u, none⟩ = some (.int .i64 (F.getD u 0)) := (hb.cell (p := ⟨b, o + u, none⟩) hbb).trans hcell
                  obtain ⟨y, hy⟩ : ∃ y, y = F.getD u 0 := ⟨_, rfl⟩
                  rw [← hy] at g2
                  have HY := hideIt hy
                  clear hy hcell
                  by_cases hyf : y = f
                  · have hyb : (y == f) = true := by simp [hyf]
                    have Hyf := hideIt hyf
                    clear hyf
                    have Hin : Hid (f ∈ F.take j) := Hmt.out.2 ⟨u, hul, by rw [← HY.out]; exact Hyf.out⟩
                    have He := hideIt (Hse.out Hok.out Hin.out)
                    go_wp2
                    go_round
                    case rel => exact ⟨j + 1, by omega, by go_num, by rw [He.out, HN.out]⟩
                    case measure => simp [intOf]; omega
                  · have hyb : (y == f) = false := by simp [hyf]
                    have Hyf := hideIt hyf
                    clear hyf
                    go_wp2
                    go_round
                    case rel =>
                      refine ⟨u + 1, by omega, by go_num, rfl, fun i hi => ?_⟩
                      by_cases hiu : i = u
                      · subst hiu; rw [← HY.out]; exact Hyf.out
                      · exact Hno.out i (by omega)
                    case measure => simp [intOf]; omega
                · have huj : u = j := by omega
                  have Hnin : Hid (f ∉ F.take j) := fun hm => by
                    obtain ⟨i, hi, he⟩ := Hmt.out.1 hm
                    exact Hno.out i (by omega) he
                  obtain ⟨hnl, hAn⟩ := Ha.out Hok.out Hnin.out
                  have HAn := hideIt hAn
                  have He := hideIt (Hne.out Hok.out Hnin.out)
                  obtain ⟨b2, o2, haa, hcell2, hbb2⟩ := hac n hnl
                  have g3 : wr.cell? ⟨b2, o2 + n, none⟩ = some (.int .i64 f) := by rw [hcell2, HAn.out]
                  subst haa
                  clear huj hAn hcell2 Hno
                  go_wp2
                  go_round
                  case rel => exact ⟨j + 1, by omega, by go_num, by rw [He.out, List.length_append, ← HN.out]; go_num⟩
                  case measure => simp [intOf]; omega
        · have hjF : j = F.length := by omega
          have Hn : Hid ((runAM F j).1.length = A.length) := by rw [hjF, ← HA.out]; rfl
          have Hsa := Slc.own hoa
          have Hsm := Slc.own hom
          rw [Hn.out]
          go_wp2_with fail
          refine (cons_any _ _ A M wr (by omega) (by omega) Hmem.out Hsa Hsm).mono ?_
          rintro e w3 ⟨rfl, hb3⟩
          rw [Hcons.out]
          go_wp2
          go_ret
          exact ⟨rfl, hb1.trans ((hb.mono hb1.size).trans (hb3.mono (Nat.le_trans hb1.size hb.size)))⟩

/-- A slice of integers that came in. -/
theorem slc_of_row {K : IntKind} {w : World} {a : Option Addr} {len cap : Nat} {zs : List Int}
    (h : (a = none ∧ len = 0 ∧ cap = 0 ∧ zs = []) ∨ ∃ x, a = some x ∧ len ≤ cap ∧ cap ≤ maxLen ∧ zs.length = cap ∧ (∀ i, i < zs.length → w.cell? (x.add i) = some (.int K (zs.getD i 0))) ∧ ∀ n ∈ zs, (Lit.int K n).wf = true) :
    len ≤ maxLen ∧ (zs.take len).length = len ∧ Slc K w (.slice a len cap) (zs.take len) := by
  rcases h with ⟨rfl, rfl, rfl, rfl⟩ | ⟨x, rfl, hlc, hcm, hz, hcell, -⟩
  · exact ⟨by decide, rfl, none, 0, rfl, fun i hi => by simp at hi⟩
  · have hl : (zs.take len).length = len := by rw [List.length_take]; omega
    refine ⟨by omega, hl, some x, cap, by rw [hl], fun i hi => ?_⟩
    rw [hl] at hi
    have hc := hcell i (by omega)
    obtain ⟨b, o, spot⟩ := x
    have hspot : spot = none := by simpa [Addr.add] using World.cell?_spot (hcell 0 (by omega))
    subst hspot
    have ha : (⟨b, o, none⟩ : Addr).add i = ⟨b, o + i, none⟩ := by unfold Addr.add; split <;> simp_all
    rw [ha] at hc
    refine ⟨b, o, rfl, ?_, World.block_lt_of_cell? w _ hc⟩
    rw [hc]
    simp [hi]

set_option maxRecDepth 100000 in
theorem script_long (pid : Int) (a : Option Addr) (len cap : Nat) (w : World) (h : len ≤ maxLen) (hF : 4096 < len) :
    Calls Try.prog 7 #[.int .i64 pid, .slice a len cap] w fun e w' => e = .returned (.bool true) ∧ Below w.heap.size w w' := by
  have h' : len ≤ 9223372036854775807 := by unfold maxLen at h; omega
  go_enter Try.func7, Try.ntmps7
  go_wp2_with fail
  refine (bytes27 pid a len cap w h).mono ?_
  rintro e w' ⟨rfl, rfl⟩
  cases hd : decide (len ≤ 1048576)
  · go_wp2
    go_ret
    exact ⟨rfl, Below.refl _ _⟩
  · go_wp2
    go_ret
    exact ⟨rfl, Below.refl _ _⟩

end Go.Proofs.Qxb6603956a
