/- stringEnd, the law's own search for the closing quote, and the law over both. -/
import Derived.Test.Qxb6604001aBase
namespace Go.Proofs.Qxb6604001a
open Go.RowKit
set_option linter.unusedVariables false

/-- The scan that starts at j inside a string comes to its closing quote, just ahead of e. -/
inductive StrPath (zs : List Int) : Nat → Nat → Prop
  | quote {j : Nat} : j < zs.length → zs.getD j 0 = 34 → StrPath zs j (j + 1)
  | esc {j e : Nat} : zs.getD j 0 = 92 → StrPath zs (j + 2) e → StrPath zs j e
  | other {j e : Nat} : zs.getD j 0 ≠ 34 → zs.getD j 0 ≠ 92 → StrPath zs (j + 1) e → StrPath zs j e

theorem StrPath.lt {zs : List Int} {j e : Nat} (h : StrPath zs j e) : j < e ∧ e ≤ zs.length := by
  induction h with
  | quote h1 h2 => omega
  | esc h1 h2 ih => omega
  | other h1 h2 h3 ih => omega

theorem StrPath.step {zs : List Int} {j e : Nat} (h : StrPath zs j e) :
    (zs.getD j 0 = 34 ∧ e = j + 1) ∨ (zs.getD j 0 = 92 ∧ StrPath zs (j + 2) e) ∨ (zs.getD j 0 ≠ 34 ∧ zs.getD j 0 ≠ 92 ∧ StrPath zs (j + 1) e) := by
  cases h with
  | quote h1 h2 => exact .inl ⟨h2, rfl⟩
  | esc h1 h2 => exact .inr (.inl ⟨h1, h2⟩)
  | other h1 h2 h3 => exact .inr (.inr ⟨h1, h2, h3⟩)

set_option maxRecDepth 100000 in
set_option maxHeartbeats 1000000 in
theorem stringEnd19 (t g start fin : Nat) (zs : List Int) (p : Value) (w : World) (hl : zs.length ≤ 65536) 
    (c0 : w.cell? ⟨t, 0, none⟩ = some (.slice (some ⟨g, 0, none⟩) zs.length zs.length)) (hc : Cells w g zs) (hp : StrPath zs (start + 1) fin) :
    Calls Try.prog 19 #[.pointer (some ⟨t, 0, none⟩), .int .i64 start] w fun e w' => e = .returned (.int .i64 fin) ∧ w' = w := by
  have hlt0 := hp.lt
  have hs : start ≤ 65536 := by omega
  have HC := hideIt hc
  clear hc hlt0
  go_enter Try.func19, Try.ntmps19
  go_wp2_with fail
  go_loop [5] (fun i => ∃ j : Nat, i = .int .i64 j ∧ StrPath zs j fin) (fun i => zs.length - (intOf i).toNat)
  case atStart => exact ⟨start + 1, by go_num, hp⟩
  case round =>
    clear hp
    obtain ⟨j, rfl, hp⟩ := hrel
    have hlt := hp.lt
    have g1 : w.cell? ⟨g, j, none⟩ = some (.int .u8 (zs.getD j 0)) := HC.out.1 j (by omega)
    have hj : j < zs.length := by omega
    have hst := hp.step
    obtain ⟨c, hcc⟩ : ∃ c, c = zs.getD j 0 := ⟨_, rfl⟩
    rw [← hcc] at g1 hst
    clear hcc hp
    rcases hst with ⟨rfl, rfl⟩ | ⟨rfl, hp⟩ | ⟨h1, h2, hp⟩
    · go_wp2
      go_ret
      exact ⟨by go_num, rfl⟩
    · have hlt2 := hp.lt
      have HP := hideIt hp
      clear hp
      go_wp2
      go_round
      case rel => exact ⟨j + 2, by go_num, HP.out⟩
      case measure => simp [intOf]; omega
    · have HP := hideIt hp
      have b1 : (c == 92) = false := by simpa using h2
      have b2 : (c == 34) = false := by simpa using h1
      clear hp h1 h2
      go_wp2
      go_round
      case rel => exact ⟨j + 1, by go_num, HP.out⟩
      case measure => simp [intOf]; omega

set_option maxRecDepth 100000 in
set_option maxHeartbeats 1000000 in
theorem zzstringEnd13 (g start fin : Nat) (zs : List Int) (w : World) (hl : zs.length ≤ 65536) (hc : Cells w g zs) (hp : StrPath zs (start + 1) fin) :
    Calls Try.prog 13 #[.slice (some ⟨g, 0, none⟩) zs.length zs.length, .int .i64 start] w fun e w' => e = .returned (.int .i64 fin) ∧ Below w.heap.size w w' := by
  have hal : ∀ o, Below w.heap.size w (w.alloc o) := fun o => (Below.refl _ _).alloc (Nat.le_refl _) _
  go_enter Try.func13, Try.ntmps13
  go_wp2_with fail
  refine (stringEnd19 w.heap.size g start fin zs (.int .i64 0) _ hl ?_ (hc.below (hal _)) hp).mono ?_
  · simp only [World.cell?, heap_alloc_new]; simp
  · rintro e w' ⟨rfl, rfl⟩
    go_wp2
    go_ret
    exact ⟨rfl, hal _⟩

/-! ### The run of backslashes ahead of a place -/
def run (zs : List Int) (lo : Nat) : Nat → Nat
  | 0 => 0
  | p + 1 => if lo ≤ p ∧ zs.getD p 0 = 92 then run zs lo p + 1 else 0
theorem run_le (zs : List Int) (lo p : Nat) : run zs lo p ≤ p := by
  induction p with
  | zero => simp [run]
  | succ p ih => rw [run]; split <;> omega

theorem path_of_run {zs : List Int} {lo j : Nat} (hj : j < zs.length) (hq : zs.getD j 0 = 34) (he : run zs lo j % 2 = 0)
    (ho : ∀ k, lo ≤ k → k < j → zs.getD k 0 = 34 → run zs lo k % 2 = 1) :
    ∀ (n p : Nat), j - p ≤ n → lo ≤ p → p ≤ j → run zs lo p % 2 = 0 → StrPath zs p (j + 1) := by
  intro n
  induction n with
  | zero =>
    intro p h1 h2 h3 h4
    obtain rfl : p = j := by omega
    exact .quote hj hq
  | succ n ih =>
    intro p h1 h2 h3 h4
    by_cases hpj : p = j
    · subst hpj; exact .quote hj hq
    · by_cases hb : zs.getD p 0 = 92
      · have r1 : run zs lo (p + 1) = run zs lo p + 1 := by rw [run, if_pos ⟨h2, hb⟩]
        have hne : p + 1 ≠ j := by rintro rfl; omega
        refine .esc hb (ih (p + 2) (by omega) (by omega) (by omega) ?_)
        rw [show p + 2 = (p + 1) + 1 from rfl, run]
        split <;> omega
      · by_cases hq2 : zs.getD p 0 = 34
        · have := ho p h2 (by omega) hq2; omega
        · refine .other hq2 hb (ih (p + 1) (by omega) (by omega) (by omega) ?_)
          rw [run, if_neg (fun h => hb h.2)]

def ClosAns (zs : List Int) (start : Nat) (r : Int) : Prop := r = -1 ∨ ∃ e : Nat, r = e ∧ StrPath zs (start + 1) (e + 1)

def Odds (zs : List Int) (start j : Nat) : Prop := ∀ k, start + 1 ≤ k → k < j → zs.getD k 0 = 34 → run zs (start + 1) k % 2 = 1
theorem Odds.next {zs : List Int} {start j : Nat} (h : Odds zs start j) (hj : zs.getD j 0 = 34 → run zs (start + 1) j % 2 = 1) : Odds zs start (j + 1) := by
  intro k h1 h2 h3
  by_cases hk : k < j
  · exact h k h1 hk h3
  · obtain rfl : k = j := by omega
    exact hj h3
theorem clos_odd {zs : List Int} {start j : Nat} (hj1 : start < j) (hlt : j < zs.length) (ho : Odds zs start j) (hj : zs.getD j 0 = 34 → run zs (start + 1) j % 2 = 1) :
    (∃ i : Nat, Value.int .i64 ((j : Int) + 1) = .int .i64 i ∧ start < i ∧ i ≤ zs.length ∧ Odds zs start i) ∧
      zs.length - (intOf (Value.int .i64 ((j : Int) + 1))).toNat < zs.length - (intOf (Value.int .i64 (j : Int))).toNat := by
  refine ⟨⟨j + 1, by simp, by omega, by omega, ho.next hj⟩, ?_⟩
  simp [intOf]; omega
theorem clos_even {zs : List Int} {start j : Nat} (hj1 : start < j) (hlt : j < zs.length) (ho : Odds zs start j) (hq : 34 = zs.getD j 0) (he : run zs (start + 1) j % 2 = 0) : ClosAns zs start j :=
  .inr ⟨j, rfl, path_of_run hlt hq.symm he ho (j - (start + 1)) (start + 1) (Nat.le_refl _) (Nat.le_refl _) hj1 (by rw [run, if_neg (fun h => by omega)])⟩

set_option maxRecDepth 100000 in
set_option maxHeartbeats 2000000 in
theorem closing12 (g start : Nat) (zs : List Int) (w : World) (hl : zs.length ≤ 65536) (hs : start < zs.length) (hc : Cells w g zs) :
    Calls Try.prog 12 #[.slice (some ⟨g, 0, none⟩) zs.length zs.length, .int .i64 start] w fun e w' => (∃ r, e = .returned (.int .i64 r) ∧ ClosAns zs start r) ∧ w' = w := by
  have HC := hideIt hc
  clear hc
  go_enter Try.func12, Try.ntmps12
  go_wp2_with fail
  go_loop [5] (fun i => ∃ j : Nat, i = .int .i64 j ∧ start < j ∧ j ≤ zs.length ∧ Odds zs start j) (fun i => zs.length - (intOf i).toNat)
  case atStart => exact ⟨start + 1, by go_num, by omega, by omega, fun k h1 h2 => by omega⟩
  case round =>
    obtain ⟨j, rfl, hj1, hj2, ho⟩ := hrel
    have HO := hideIt ho
    clear ho
    by_cases hlt : j < zs.length
    · have g1 : w.cell? ⟨g, j, none⟩ = some (.int .u8 (zs.getD j 0)) := HC.out.1 j (by omega)
      obtain ⟨c, hcc⟩ : ∃ c, c = zs.getD j 0 := ⟨_, rfl⟩
      rw [← hcc] at g1
      have HCC := hideIt hcc
      clear hcc
      by_cases hq : c = 34
      · subst hq
        go_wp2_with fail
        go_loop [6, 7] (fun i k => ∃ r m : Nat, i = .int .i64 r ∧ k = .int .i64 m ∧ start ≤ m ∧ m < j ∧ r ≤ j ∧ r + run zs (start + 1) (m + 1) = run zs (start + 1) j) (fun i k => (intOf k).toNat)
        case atStart => exact ⟨0, j - 1, by go_num, by go_num, by omega, by omega, by omega, by rw [Nat.sub_add_cancel (by omega)]; omega⟩
        case round =>
          obtain ⟨r, m, rfl, rfl, hm1, hm2, hr, hrun⟩ := hrel
          have HR := hideIt hrun
          have hrj : run zs (start + 1) j ≤ j := run_le _ _ _
          clear hrun
          by_cases hm : start < m
          · have g2 : w.cell? ⟨g, m, none⟩ = some (.int .u8 (zs.getD m 0)) := HC.out.1 m (by omega)
            have hml : m < zs.length := by omega
            obtain ⟨d, hdd⟩ : ∃ d, d = zs.getD m 0 := ⟨_, rfl⟩
            rw [← hdd] at g2
            have HDD := hideIt hdd
            clear hdd
            by_cases hd : d = 92
            · subst hd
              have hr2 : r + 1 + run zs (start + 1) m = run zs (start + 1) j := by
                have := HR.out
                rw [run, if_pos ⟨by omega, HDD.out.symm⟩] at this
                omega
              have hr3 : r + 1 ≤ j := by omega
              have HR2 := hideIt hr2
              clear hr2
              go_wp2_with fail
              go_round
              case rel => exact ⟨r + 1, m - 1, by go_num, by go_num, by omega, by omega, by omega, by rw [Nat.sub_add_cancel (by omega)]; exact HR2.out⟩
              case measure => simp [intOf]; omega
            · have hb : (d == 92) = false := by simpa using hd
              have hr2 : r = run zs (start + 1) j := by
                have := HR.out
                rw [run, if_neg (fun h => hd (HDD.out.trans h.2))] at this
                omega
              clear hd HR
              by_cases hpar : run zs (start + 1) j % 2 = 0
              · have hp2 : ((run zs (start + 1) j : Int) % 2 == 0) = true := by simp; omega
                have HP := hideIt hpar
                clear hpar
                go_wp2_with fail
                go_ret
                exact ⟨⟨j, rfl, clos_even hj1 hlt HO.out HCC.out HP.out⟩, rfl⟩
              · have hp2 : ((run zs (start + 1) j : Int) % 2 == 0) = false := by simp; omega
                have HP := hideIt hpar
                clear hpar
                go_wp2_with fail
                exact clos_odd hj1 hlt HO.out (fun _ => by have := HP.out; omega)
          · have hr2 : r = run zs (start + 1) j := by
              have := HR.out
              rw [run, if_neg (fun h => by omega)] at this
              omega
            clear HR
            by_cases hpar : run zs (start + 1) j % 2 = 0
            · have hp2 : ((run zs (start + 1) j : Int) % 2 == 0) = true := by simp; omega
              have HP := hideIt hpar
              clear hpar
              go_wp2_with fail
              go_ret
              exact ⟨⟨j, rfl, clos_even hj1 hlt HO.out HCC.out HP.out⟩, rfl⟩
            · have hp2 : ((run zs (start + 1) j : Int) % 2 == 0) = false := by simp; omega
              have HP := hideIt hpar
              clear hpar
              go_wp2_with fail
              exact clos_odd hj1 hlt HO.out (fun _ => by have := HP.out; omega)
      · have hq2 : (c != 34) = true := by simpa using hq
        have HQ := hideIt hq
        clear hq
        go_wp2_with fail
        exact clos_odd hj1 hlt HO.out (fun h => absurd (HCC.out.trans h) HQ.out)
    · go_wp2
      go_ret
      exact ⟨⟨-1, rfl, .inl rfl⟩, rfl⟩

set_option maxRecDepth 100000 in
set_option maxHeartbeats 1000000 in
theorem fnstr_early (a : Option Addr) (len cap : Nat) (pos : Int) (w : World) (hl : len ≤ maxLen) (h : 65536 < len ∨ pos < 0 ∨ len ≤ pos) :
    Calls Try.prog 4 #[.slice a len cap, .int .i64 pos] w fun e w' => e = .returned (.bool true) ∧ Below w.heap.size w w' := by
  by_cases hb : len ≤ 1048576
  · have hd := hideIt (show decide (len ≤ 1048576) = true by simp [hb])
    go_enter Try.func4, Try.ntmps4
    go_wp2_with fail
    refine (bytes11 a len cap pos w hl).mono ?_
    rintro e w' ⟨rfl, hw⟩
    replace hw := hw.symm
    subst hw
    rw [hd.out]
    by_cases h2 : 65536 < len
    · go_wp2
      go_ret
      exact ⟨rfl, Below.refl _ _⟩
    · by_cases h3 : pos < 0
      · clear h
        go_wp2
        go_ret
        exact ⟨rfl, Below.refl _ _⟩
      · have h4 : len ≤ pos := by omega
        clear h
        go_wp2
        go_ret
        exact ⟨rfl, Below.refl _ _⟩
  · have hd := hideIt (show decide (len ≤ 1048576) = false by simp; omega)
    clear h
    go_enter Try.func4, Try.ntmps4
    go_wp2_with fail
    refine (bytes11 a len cap pos w hl).mono ?_
    rintro e w' ⟨rfl, hw⟩
    replace hw := hw.symm
    subst hw
    rw [hd.out]
    go_wp2
    go_ret
    exact ⟨rfl, Below.refl _ _⟩

set_option maxRecDepth 100000 in
set_option maxHeartbeats 2000000 in
theorem fnstr_main (v : Value) (zs : List Int) (start : Nat) (w : World) (hl : zs.length ≤ 65536) (hs : start < zs.length) (hv : Slc .u8 w v zs) :
    Calls Try.prog 4 #[v, .int .i64 start] w fun e w' => e = .returned (.bool true) ∧ Below w.heap.size w w' := by
  obtain ⟨a, cap, rfl, -⟩ := id hv
  have hd := hideIt (show decide (zs.length ≤ 1048576) = true by simp; omega)
  go_enter Try.func4, Try.ntmps4
  go_wp2_with fail
  refine (bytes11 a zs.length cap start w (by unfold maxLen; omega)).mono ?_
  rintro e w' ⟨rfl, hw⟩
  replace hw := hw.symm
  subst hw
  rw [hd.out]
  go_wp2_with fail
  refine (clone_any _ zs w (by omega) hv).mono ?_
  rintro e w1 ⟨a1, rfl, hc1, hb1⟩
  obtain ⟨g, rfl, hcs⟩ := hc1 (by omega)
  clear hc1
  go_wp2_with fail
  refine (closing12 g start zs w1 hl hs hcs).mono ?_
  rintro e w' ⟨⟨r, rfl, hr⟩, hw⟩
  replace hw := hw.symm
  subst hw
  rcases hr with rfl | ⟨j, rfl, hp⟩
  · go_wp2
    go_ret
    exact ⟨rfl, hb1⟩
  · have hlt := hp.lt
    go_wp2_with fail
    refine (zzstringEnd13 g start (j + 1) zs w1 hl hcs hp).mono ?_
    rintro e w2 ⟨rfl, hb2⟩
    go_wp2
    go_ret
    exact ⟨rfl, hb1.trans (hb2.mono hb1.size)⟩

theorem fnstr_any (a : Option Addr) (len cap : Nat) (zs : List Int) (pos : Int) (w : World) (hm : len ≤ maxLen) (hz : zs.length = len) (hv : Slc .u8 w (.slice a len cap) zs) :
    Calls Try.prog 4 #[.slice a len cap, .int .i64 pos] w fun e w' => e = .returned (.bool true) ∧ Below w.heap.size w w' := by
  by_cases h : 65536 < len ∨ pos < 0 ∨ len ≤ pos
  · exact fnstr_early a len cap pos w hm h
  · obtain ⟨n, rfl⟩ : ∃ n : Nat, pos = n := ⟨pos.toNat, by omega⟩
    exact fnstr_main _ zs n w (by omega) (by omega) hv

end Go.Proofs.Qxb6604001a
