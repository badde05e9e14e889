/- skipSeparators, and the law over it. -/
import Derived.Test.Qxb6604001aBase
import Derived.BigQuiet
import Derived.Deep.QuietTactic
namespace Go.Proofs.Qxb6604001a
open Go.RowKit
set_option linter.unusedVariables false

theorem isSep_of {c : Int} (h : isSep c = true) : c = 32 ∨ c = 9 ∨ c = 10 ∨ c = 13 ∨ c = 44 ∨ c = 58 := by
  simp [isSep, isWs] at h; omega
theorem isSep_not {c : Int} (h : isSep c = false) : (c == 32) = false ∧ (c == 9) = false ∧ (c == 10) = false ∧ (c == 13) = false ∧ (c == 44) = false ∧ (c == 58) = false := by
  simp [isSep, isWs] at h; simp; omega

/-- What the cell of a validTokens says is its place. -/
def posOf (t : Nat) (w : World) : Int := match w.cell? ⟨t, 1, none⟩ with | some (.int _ p) => p | _ => 0

def Skipped (zs : List Int) (pos p : Int) : Prop :=
  pos ≤ p ∧ (p = pos ∨ p ≤ zs.length) ∧ (∀ k : Nat, pos ≤ k → (k : Int) < p → isSep (zs.getD k 0) = true)

theorem set1 (w : World) (t : Nat) (x y z : Value) (T : TypeId) (h : w.heap[t]? = some (.cells #[x, y] T (0, 0))) : (w.setCell ⟨t, 1, none⟩ z).heap[t]? = some (.cells #[x, z] T (0, 0)) := by
  obtain ⟨h1, h2⟩ := Array.getElem?_eq_some_iff.1 h
  simp [World.setCell, h1, Array.getElem_modify, h2]

theorem skip_rel {B t n N : Nat} {w wr : World} {a : Option Addr} {zs : List Int} {pos : Int} (hb : Below B w wr) (hBt : B ≤ t)
    (hh : wr.heap[t]? = some (.cells #[.slice a zs.length zs.length, .int .i64 n] 29 (0, 0))) (hsk : Skipped zs pos n) (hlt : n < zs.length) (hs : isSep (zs.getD n 0) = true) :
    (∃ p : Int, ((wr.drewN N).setCell ⟨t, 1, none⟩ (.int .i64 ((n : Int) + 1))).heap[t]? = some (.cells #[.slice a zs.length zs.length, .int .i64 p] 29 (0, 0)) ∧ Skipped zs pos p ∧
      Below B w ((wr.drewN N).setCell ⟨t, 1, none⟩ (.int .i64 ((n : Int) + 1)))) ∧
    ((zs.length : Int) - posOf t ((wr.drewN N).setCell ⟨t, 1, none⟩ (.int .i64 ((n : Int) + 1)))).toNat < ((zs.length : Int) - posOf t wr).toNat := by
  have h1 := set1 (wr.drewN N) t _ _ (.int .i64 ((n : Int) + 1)) 29 hh
  refine ⟨⟨(n : Int) + 1, h1, ⟨by have := hsk.1; omega, .inr (by omega), fun k h1 h2 => ?_⟩, (below_drewN hb N).setCell hBt _⟩, ?_⟩
  · by_cases hk : (k : Int) < n
    · exact hsk.2.2 k h1 hk
    · obtain rfl : k = n := by omega
      exact hs
  · have e1 : posOf t wr = n := by simp [posOf, World.cell?, hh]
    have e2 : posOf t ((wr.drewN N).setCell ⟨t, 1, none⟩ (.int .i64 ((n : Int) + 1))) = n + 1 := by simp only [posOf, World.cell?, h1]; simp
    rw [e1, e2]; omega

set_option maxRecDepth 100000 in
set_option maxHeartbeats 1000000 in
theorem skip18 (t B : Nat) (a : Option Addr) (zs : List Int) (pos : Int) (w : World) (hl : zs.length ≤ 65536) (hp0 : 0 ≤ pos) (hp1 : pos ≤ 9223372036854775807)
    (ht : w.heap[t]? = some (.cells #[.slice a zs.length zs.length, .int .i64 pos] 29 (0, 0))) (hBt : B ≤ t)
    (hc : 0 < zs.length → ∃ g, a = some ⟨g, 0, none⟩ ∧ Cells w g zs ∧ g < B) :
    Calls Try.prog 18 #[.pointer (some ⟨t, 0, none⟩)] w fun e w' => e = .returned (.tuple #[]) ∧ (∃ p : Int, w'.cell? ⟨t, 1, none⟩ = some (.int .i64 p) ∧ Skipped zs pos p ∧ ¬ (p < zs.length ∧ isSep (zs.getD p.toNat 0) = true)) ∧ Below B w w' := by
  go_enter Try.func18, Try.ntmps18
  go_wp2_with fail
  go_loopw [] (fun wr => ∃ p : Int, wr.heap[t]? = some (.cells #[.slice a zs.length zs.length, .int .i64 p] 29 (0, 0)) ∧ Skipped zs pos p ∧ Below B w wr) (fun wr => (zs.length - posOf t wr).toNat)
  case atStart => exact ⟨pos, ht, ⟨by omega, .inl rfl, fun k h1 h2 => by omega⟩, Below.refl _ _⟩
  case round =>
    obtain ⟨p, hh, hsk, hb⟩ := hrel
    have c0 : wr.cell? ⟨t, 0, none⟩ = some (.slice a zs.length zs.length) := by simp [World.cell?, hh]
    have c1 : wr.cell? ⟨t, 1, none⟩ = some (.int .i64 p) := by simp [World.cell?, hh]
    have f1 : wr.frozen? ⟨t, 1, none⟩ = false := by simp [World.frozen?, hh]
    have HSK := hideIt hsk
    have HHH := hideIt hh
    have hpb : p ≤ 9223372036854775807 := by have := hsk.1; have := hsk.2.1; omega
    have hpb0 : 0 ≤ p := by have := hsk.1; omega
    clear hsk hh
    by_cases hlt : p < zs.length
    · obtain ⟨g, rfl, hcs, hgB⟩ := hc (by omega)
      have gc : wr.cell? ⟨g, p.toNat, none⟩ = some (.int .u8 (zs.getD p.toNat 0)) := (hb.cell (p := ⟨g, p.toNat, none⟩) hgB).trans (hcs.1 _ (by omega))
      obtain ⟨n, rfl⟩ : ∃ n : Nat, p = n := ⟨p.toNat, by omega⟩
      obtain ⟨c, hcc⟩ : ∃ c, c = zs.getD n 0 := ⟨_, rfl⟩
      simp only [Int.toNat_natCast] at gc
      rw [← hcc] at gc
      have HCC := hideIt hcc
      clear hcc hcs
      have hlt' : n < zs.length := by omega
      cases hs : isSep c
      · obtain ⟨h1, h2, h3, h4, h5, h6⟩ := isSep_not hs
        have HS := hideIt hs
        clear hs
        go_wp2_with fail
        go_quiet (fail)
        go_wp2_with fail
        go_quiet (fail)
        go_wp2
        refine bodyPost_ret (v := .tuple #[]) (by simp [results, Try.results18, go_sem]) rfl ⟨rfl, ⟨n, by simpa using c1, HSK.out, ?_⟩, below_drewN hb _⟩
        rintro ⟨-, h⟩
        rw [Int.toNat_natCast, ← HCC.out, HS.out] at h
        cases h
      · have HS := hideIt (HCC.out ▸ hs)
        rcases isSep_of hs with rfl | rfl | rfl | rfl | rfl | rfl
        all_goals
          clear hs
          go_wp2_with fail
          go_quiet (fail)
          go_wp2_with fail
          go_quiet (fail)
          go_wp2
          exact skip_rel hb hBt HHH.out HSK.out hlt' HS.out
    · go_wp2_with fail
      go_quiet (fail)
      go_wp2
      go_end0
      exact ⟨rfl, ⟨p, by simpa using c1, HSK.out, fun h => by omega⟩, below_drewN hb _⟩

set_option maxRecDepth 100000 in
set_option maxHeartbeats 1000000 in
theorem zzskip9 (a : Option Addr) (zs : List Int) (pos : Int) (w : World) (hl : zs.length ≤ 65536) (hp0 : 0 ≤ pos) (hp1 : pos ≤ 9223372036854775807)
    (hc : 0 < zs.length → ∃ g, a = some ⟨g, 0, none⟩ ∧ Cells w g zs) :
    Calls Try.prog 9 #[.slice a zs.length zs.length, .int .i64 pos] w fun e w' => (∃ p : Int, e = .returned (.int .i64 p) ∧ Skipped zs pos p ∧ ¬ (p < zs.length ∧ isSep (zs.getD p.toNat 0) = true)) ∧ Below w.heap.size w w' := by
  have hal : ∀ o, Below w.heap.size w (w.alloc o) := fun o => (Below.refl _ _).alloc (Nat.le_refl _) _
  go_enter Try.func9, Try.ntmps9
  go_wp2_with fail
  refine (skip18 w.heap.size w.heap.size a zs pos _ hl hp0 hp1 (heap_alloc_new w _) (Nat.le_refl _) (fun h => ?_)).mono ?_
  · obtain ⟨g, rfl, hg⟩ := hc h
    exact ⟨g, rfl, hg.below (hal _), hg.2⟩
  · rintro e w' ⟨rfl, ⟨p, hcell, hsk, hns⟩, hb⟩
    have HSK := hideIt hsk
    have HNS := hideIt hns
    clear hsk hns hc
    go_wp2
    go_ret
    exact ⟨⟨p, rfl, HSK.out, HNS.out⟩, (hal _).trans hb⟩

set_option maxRecDepth 100000 in
set_option maxHeartbeats 1000000 in
theorem fnskip_early (a : Option Addr) (len cap : Nat) (pos : Int) (w : World) (hl : len ≤ maxLen) (h : 65536 < len ∨ pos < 0) :
    Calls Try.prog 3 #[.slice a len cap, .int .i64 pos] w fun e w' => e = .returned (.bool true) ∧ Below w.heap.size w w' := by
  by_cases hb : len ≤ 1048576
  · have hd := hideIt (show decide (len ≤ 1048576) = true by simp [hb])
    go_enter Try.func3, Try.ntmps3
    go_wp2_with fail
    refine (bytes7 a len cap pos w hl).mono ?_
    rintro e w' ⟨rfl, hw⟩
    replace hw := hw.symm
    subst hw
    rw [hd.out]
    by_cases h2 : 65536 < len
    · go_wp2
      go_ret
      exact ⟨rfl, Below.refl _ _⟩
    · have h3 : pos < 0 := by omega
      clear h
      go_wp2
      go_ret
      exact ⟨rfl, Below.refl _ _⟩
  · have hd := hideIt (show decide (len ≤ 1048576) = false by simp; omega)
    clear h
    go_enter Try.func3, Try.ntmps3
    go_wp2_with fail
    refine (bytes7 a len cap pos w hl).mono ?_
    rintro e w' ⟨rfl, hw⟩
    replace hw := hw.symm
    subst hw
    rw [hd.out]
    go_wp2
    go_ret
    exact ⟨rfl, Below.refl _ _⟩

set_option maxRecDepth 100000 in
set_option maxHeartbeats 2000000 in
theorem fnskip_main (v : Value) (zs : List Int) (pos : Int) (w : World) (hl : zs.length ≤ 65536) (hp0 : 0 ≤ pos) (hp1 : pos ≤ 9223372036854775807) (hv : Slc .u8 w v zs) :
    Calls Try.prog 3 #[v, .int .i64 pos] w fun e w' => e = .returned (.bool true) ∧ Below w.heap.size w w' := by
  obtain ⟨a, cap, rfl, -⟩ := id hv
  have hd := hideIt (show decide (zs.length ≤ 1048576) = true by simp; omega)
  go_enter Try.func3, Try.ntmps3
  go_wp2_with fail
  refine (bytes7 a zs.length cap pos w (by unfold maxLen; omega)).mono ?_
  rintro e w' ⟨rfl, hw⟩
  replace hw := hw.symm
  subst hw
  rw [hd.out]
  go_wp2_with fail
  refine (clone_any _ zs w (by omega) hv).mono ?_
  rintro e w1 ⟨a1, rfl, hc1, hb1⟩
  go_wp2_with fail
  refine (zzskip9 a1 zs pos w1 hl hp0 hp1 hc1).mono ?_
  rintro e w2 ⟨⟨p, rfl, hsk, hns⟩, hb2⟩
  have hb : Below w.heap.size w w2 := hb1.trans (hb2.mono hb1.size)
  have HSK := hideIt hsk
  have HNS := hideIt hns
  have hge : pos ≤ p := hsk.1
  have hor : p = pos ∨ p ≤ zs.length := hsk.2.1
  clear hsk hns
  by_cases hlt : pos < zs.length
  · obtain ⟨g, rfl, hcs⟩ := hc1 (by omega)
    have hc2 := hideIt (hcs.below hb2)
    have hple : p ≤ zs.length := by omega
    clear hcs hv hb1 hb2 hc1 hor
    obtain ⟨n, rfl⟩ : ∃ n : Nat, p = n := ⟨p.toNat, by omega⟩
    obtain ⟨m, rfl⟩ : ∃ m : Nat, pos = m := ⟨pos.toNat, by omega⟩
    go_wp2_with fail
    simp only [show decide (65536 < (zs.length : Int)) = false from decide_eq_false (by omega), show decide ((m : Int) < 0) = false from decide_eq_false (by omega), show decide (n < m) = false from decide_eq_false (by omega), show decide (zs.length < n) = false from decide_eq_false (by omega), Bool.or_self]
    go_loop [6] (fun i => ∃ k : Nat, m ≤ k ∧ k ≤ n ∧ i = .int .i64 k) (fun i => n - (intOf i).toNat)
    case atStart => exact ⟨m, Nat.le_refl _, by omega, rfl⟩
    case round =>
      obtain ⟨k, hk1, hk2, rfl⟩ := hrel
      by_cases hkn : k < n
      · have g1 : w2.cell? ⟨g, k, none⟩ = some (.int .u8 (zs.getD k 0)) := hc2.out.1 k (by omega)
        have hs := hideIt (HSK.out.2.2 k (by omega) (by omega))
        obtain ⟨c, hcc⟩ : ∃ c, c = zs.getD k 0 := ⟨_, rfl⟩
        rw [← hcc] at g1 hs
        clear hcc
        go_wp2_with fail
        refine (isSep10 c w2).mono ?_
        rintro e w' ⟨rfl, hw⟩
        replace hw := hw.symm
        subst hw
        rw [hs.out]
        go_wp2_with fail
        go_round
        case rel => exact ⟨k + 1, by omega, by omega, by go_num⟩
        case measure => simp [intOf]; omega
      · obtain rfl : k = n := by omega
        by_cases hend : k = zs.length
        · go_wp2
          go_ret
          exact ⟨rfl, hb⟩
        · have hkl : k < zs.length := by omega
          have g1 : w2.cell? ⟨g, k, none⟩ = some (.int .u8 (zs.getD k 0)) := hc2.out.1 k (by omega)
          have hs : isSep (zs.getD k 0) = false := by
            cases hx : isSep (zs.getD k 0)
            · rfl
            · exact absurd ⟨by omega, by simpa using hx⟩ HNS.out
          have HS := hideIt hs
          obtain ⟨c, hcc⟩ : ∃ c, c = zs.getD k 0 := ⟨_, rfl⟩
          rw [← hcc] at g1 HS
          clear hcc hs
          have hne : ((k : Int) == zs.length) = false := by simp; omega
          go_wp2_with fail
          refine (isSep10 c w2).mono ?_
          rintro e w' ⟨rfl, hw⟩
          replace hw := hw.symm
          subst hw
          rw [HS.out]
          go_wp2_with fail
          go_ret
          exact ⟨rfl, hb⟩
  · obtain rfl : p = pos := by omega
    go_wp2
    go_ret
    exact ⟨rfl, hb⟩

theorem fnskip_any (a : Option Addr) (len cap : Nat) (zs : List Int) (pos : Int) (w : World) (hm : len ≤ maxLen) (hz : zs.length = len) (hv : Slc .u8 w (.slice a len cap) zs) (hp1 : pos ≤ 9223372036854775807) :
    Calls Try.prog 3 #[.slice a len cap, .int .i64 pos] w fun e w' => e = .returned (.bool true) ∧ Below w.heap.size w w' := by
  by_cases h : 65536 < len ∨ pos < 0
  · exact fnskip_early a len cap pos w hm h
  · exact fnskip_main _ zs pos w (by omega) (by omega) hp1 hv

end Go.Proofs.Qxb6604001a
