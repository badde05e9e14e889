/- valueEnd, walked; the grammar's domain; the law over both. -/
import Derived.Test.Qxb6604001aJBox
namespace Go.Proofs.Qxb6604001a
open Go.RowKit
set_option linter.unusedVariables false

theorem fol_t {c : Int} (w : World) (h : endsLit c = true) : Calls Try.prog 21 #[.int .u8 c] w fun e w' => e = .returned (.bool true) ∧ w = w' :=
  (follow21 c w).mono fun e w' ⟨a, b⟩ => ⟨h ▸ a, b.symm⟩
theorem fol_f {c : Int} (w : World) (h : endsLit c = false) : Calls Try.prog 21 #[.int .u8 c] w fun e w' => e = .returned (.bool false) ∧ w = w' :=
  (follow21 c w).mono fun e w' ⟨a, b⟩ => ⟨h ▸ a, b.symm⟩
theorem end_t {c : Int} (w : World) (h : endsLit c = true) : Calls Try.prog 30 #[.int .u8 c] w fun e w' => e = .returned (.bool true) ∧ w = w' :=
  (ends30 c w).mono fun e w' ⟨a, b⟩ => ⟨h ▸ a, b.symm⟩
theorem end_f {c : Int} (w : World) (h : endsLit c = false) : Calls Try.prog 30 #[.int .u8 c] w fun e w' => e = .returned (.bool false) ∧ w = w' :=
  (ends30 c w).mono fun e w' ⟨a, b⟩ => ⟨h ▸ a, b.symm⟩

theorem Scan.le {zs : List Int} {i d i' d' : Nat} (h : Scan zs i d i' d') : i ≤ i' := by
  induction h with
  | refl => omega
  | other _ _ _ ih => omega
  | str _ hp _ ih => have := hp.lt; omega
  | opn _ _ _ ih => omega
  | cls _ _ _ ih => omega

theorem Scan.step {zs : List Int} {k d m : Nat} (h : Scan zs k d m 1) :
    (k = m ∧ d = 1) ∨ (k < zs.length ∧ isOth (zs.getD k 0) ∧ Scan zs (k + 1) d m 1) ∨ (zs.getD k 0 = 34 ∧ ∃ e, StrPath zs (k + 1) e ∧ Scan zs e d m 1) ∨
    (k < zs.length ∧ (zs.getD k 0 = 91 ∨ zs.getD k 0 = 123) ∧ Scan zs (k + 1) (d + 1) m 1) ∨
    (k < zs.length ∧ (zs.getD k 0 = 93 ∨ zs.getD k 0 = 125) ∧ ∃ d', d = d' + 2 ∧ Scan zs (k + 1) (d' + 1) m 1) := by
  cases h with
  | refl => exact .inl ⟨rfl, rfl⟩
  | other a b c => exact .inr (.inl ⟨a, b, c⟩)
  | str a b c => exact .inr (.inr (.inl ⟨a, _, b, c⟩))
  | opn a b c => exact .inr (.inr (.inr (.inl ⟨a, b, c⟩)))
  | cls a b c => exact .inr (.inr (.inr (.inr ⟨a, b, _, rfl, c⟩)))

theorem scan_rel {zs : List Int} {k k2 d2 m : Nat} {x y : Int} (h : Scan zs k2 d2 m 1) (hd : d2 ≤ k2) (hx : x = d2) (hy : y = k2) (hk : k < k2) (hk2 : k2 ≤ zs.length) :
    (∃ d k : Nat, Value.int .i64 x = .int .i64 d ∧ Value.int .i64 y = .int .i64 k ∧ Scan zs k d m 1 ∧ d ≤ k) ∧ zs.length - (intOf (Value.int .i64 y)).toNat < zs.length - (intOf (Value.int .i64 (k : Int))).toNat := by
  subst hx hy
  refine ⟨⟨d2, k2, rfl, rfl, h, hd⟩, ?_⟩
  simp [intOf]; omega

set_option maxRecDepth 100000 in
set_option maxHeartbeats 4000000 in
theorem ve_str (t g start fin : Nat) (zs : List Int) (w : World) (hl : zs.length ≤ 65536) (hs : start < zs.length)
    (c0 : w.cell? ⟨t, 0, none⟩ = some (.slice (some ⟨g, 0, none⟩) zs.length zs.length)) (hc : Cells w g zs) (h34 : zs.getD start 0 = 34) (hp : StrPath zs (start + 1) fin) :
    Calls Try.prog 22 #[.pointer (some ⟨t, 0, none⟩), .int .i64 start] w fun e w' => e = .returned (.int .i64 fin) ∧ w = w' := by
  obtain ⟨c, g1, HCC⟩ := hc.at hs
  have h2 := HCC.out
  rw [h34] at h2
  subst h2
  clear h34
  go_enter Try.func22, Try.ntmps22
  go_wp2_with fail
  refine (stringEnd19 t g start fin zs (.int .i64 0) w hl c0 hc hp).mono ?_
  rintro e w' ⟨rfl, hw⟩
  replace hw := hw.symm
  subst hw
  go_wp2_with fail
  go_ret
  exact ⟨rfl, rfl⟩

set_option maxRecDepth 100000 in
set_option maxHeartbeats 8000000 in
theorem ve_box (t g start m : Nat) (zs : List Int) (w : World) (hl : zs.length ≤ 65536) (hs : start < zs.length)
    (c0 : w.cell? ⟨t, 0, none⟩ = some (.slice (some ⟨g, 0, none⟩) zs.length zs.length)) (hc : Cells w g zs) (h91 : zs.getD start 0 = 91 ∨ zs.getD start 0 = 123)
    (hb : Bal zs (start + 1) m) (hm : m < zs.length) (h93 : zs.getD m 0 = 93 ∨ zs.getD m 0 = 125) :
    Calls Try.prog 22 #[.pointer (some ⟨t, 0, none⟩), .int .i64 start] w fun e w' => e = .returned (.int .i64 ((m : Int) + 1)) ∧ w = w' := by
  have HS := hideIt (show Scan zs start 0 m 1 from .opn hs h91 (hb 0))
  have HC := hideIt hc
  have H93 := hideIt h93
  obtain ⟨c, g1, HCC⟩ := hc.at hs
  rw [← HCC.out] at h91
  clear hb hc h93
  rcases h91 with rfl | rfl
  all_goals
    go_enter Try.func22, Try.ntmps22
    go_wp2_with fail
    go_loop [5, 6] (fun x y => ∃ d k : Nat, x = .int .i64 d ∧ y = .int .i64 k ∧ Scan zs k d m 1 ∧ d ≤ k) (fun _ y => zs.length - (intOf y).toNat)
    case atStart => exact ⟨0, start, rfl, rfl, HS.out, Nat.zero_le _⟩
    case round =>
      clear HS g1 HCC
      obtain ⟨d, k, rfl, rfl, hsc, hdk⟩ := hrel
      have hkm := hsc.le
      have hst := hsc.step
      have hk : k < zs.length := by omega
      obtain ⟨c, g1, HCC⟩ := HC.out.at hk
      rw [← HCC.out] at hst
      clear hsc
      rcases hst with ⟨rfl, rfl⟩ | ⟨-, ho, hn⟩ | ⟨rfl, e, hp, hn⟩ | ⟨-, ho, hn⟩ | ⟨-, ho, d', rfl, hn⟩
      · have h93 := H93.out
        rw [← HCC.out] at h93
        rcases h93 with rfl | rfl
        all_goals
          go_wp2_with fail
          go_ret
          exact ⟨rfl, rfl⟩
      · have HN := hideIt hn
        have o1 : (c == 34) = false := by have := ho.1; simpa using this
        have o2 : (c == 91) = false := by have := ho.2.1; simpa using this
        have o3 : (c == 93) = false := by have := ho.2.2.1; simpa using this
        have o4 : (c == 123) = false := by have := ho.2.2.2.1; simpa using this
        have o5 : (c == 125) = false := by have := ho.2.2.2.2; simpa using this
        clear ho hn
        go_wp2_with fail
        exact scan_rel HN.out (by omega) rfl (by omega) (by omega) (by omega)
      · have HN := hideIt hn
        have hel := hp.lt
        clear hn
        go_wp2_with fail
        refine (stringEnd19 t g k e zs (.int .i64 0) w hl c0 HC.out hp).mono ?_
        rintro e2 w' ⟨rfl, hw⟩
        replace hw := hw.symm
        subst hw
        clear hp
        go_wp2_with fail
        exact scan_rel HN.out (by omega) rfl (by omega) (by omega) (by omega)
      · have HN := hideIt hn
        clear hn
        rcases ho with rfl | rfl
        all_goals
          go_wp2_with fail
          exact scan_rel HN.out (by omega) (by omega) (by omega) (by omega) (by omega)
      · have HN := hideIt hn
        clear hn
        rcases ho with rfl | rfl
        all_goals
          go_wp2_with fail
          exact scan_rel HN.out (by omega) (by omega) (by omega) (by omega) (by omega)

set_option maxRecDepth 100000 in
set_option maxHeartbeats 4000000 in
theorem ve_lit (t g start fin : Nat) (zs : List Int) (w : World) (hl : zs.length ≤ 65536) (hs : start < fin) (hf : fin ≤ zs.length)
    (c0 : w.cell? ⟨t, 0, none⟩ = some (.slice (some ⟨g, 0, none⟩) zs.length zs.length)) (hc : Cells w g zs)
    (hlit : ∀ k, start ≤ k → k < fin → isLit (zs.getD k 0)) (hend : fin < zs.length → endsLit (zs.getD fin 0) = true) :
    Calls Try.prog 22 #[.pointer (some ⟨t, 0, none⟩), .int .i64 start] w fun e w' => e = .returned (.int .i64 fin) ∧ w = w' := by
  have HL := hideIt hlit
  have HE := hideIt hend
  have HC := hideIt hc
  obtain ⟨c, g1, HCC⟩ := hc.at (show start < zs.length by omega)
  obtain ⟨-, p1, p2, p3⟩ := hlit start (Nat.le_refl _) hs
  rw [← HCC.out] at p1 p2 p3
  have o1 : (c == 34) = false := by simpa using p1
  have o2 : (c == 91) = false := by simpa using p2
  have o3 : (c == 123) = false := by simpa using p3
  have hsl : start < zs.length := by omega
  clear hlit hend hc p1 p2 p3
  go_enter Try.func22, Try.ntmps22
  go_wp2_with fail
  go_loop [7] (fun v => ∃ k : Nat, v = .int .i64 k ∧ start ≤ k ∧ k ≤ fin) (fun v => zs.length - (intOf v).toNat)
  case atStart => exact ⟨start, rfl, Nat.le_refl _, by omega⟩
  case round =>
    clear g1 o1 o2 o3
    obtain ⟨k, rfl, hk1, hk2⟩ := hrel
    by_cases hk : k < zs.length
    · obtain ⟨x, g2, HXX⟩ := HC.out.at hk
      by_cases hkf : k < fin
      · have HX := hideIt ((HL.out k hk1 hkf).1)
        rw [← HXX.out] at HX
        go_wp2_with (go_at_call 30; refine (end_f _ HX.out).mono ?_; rintro e w' ⟨rfl, rfl⟩)
        go_round
        case rel => exact ⟨k + 1, by go_num, by omega, by omega⟩
        case measure => simp [intOf]; omega
      · obtain rfl : k = fin := by omega
        have HX := hideIt (HE.out hk)
        rw [← HXX.out] at HX
        go_wp2_with (go_at_call 30; refine (end_t _ HX.out).mono ?_; rintro e w' ⟨rfl, rfl⟩)
        go_ret
        exact ⟨rfl, rfl⟩
    · obtain rfl : k = fin := by omega
      go_wp2_with fail
      go_ret
      exact ⟨rfl, rfl⟩

/-- The grammar's end, with what must follow a number or a literal. -/
def Fin' (zs : List Int) (start fin : Nat) : Prop :=
  Val zs start fin ∧ (zs.getD start 0 ≠ 34 → zs.getD start 0 ≠ 91 → zs.getD start 0 ≠ 123 → fin < zs.length → endsLit (zs.getD fin 0) = true)

theorem ve_any (t g start fin : Nat) (zs : List Int) (w : World) (hl : zs.length ≤ 65536)
    (c0 : w.cell? ⟨t, 0, none⟩ = some (.slice (some ⟨g, 0, none⟩) zs.length zs.length)) (hc : Cells w g zs) (hf : Fin' zs start fin) :
    Calls Try.prog 22 #[.pointer (some ⟨t, 0, none⟩), .int .i64 start] w fun e w' => e = .returned (.int .i64 fin) ∧ w = w' := by
  obtain ⟨⟨h1, h2, ⟨h3, h4⟩ | ⟨h3, m, rfl, h4, h5⟩ | h3⟩, hend⟩ := hf
  · exact ve_str t g start fin zs w hl (by omega) c0 hc h3 h4
  · have := ve_box t g start m zs w hl (by omega) c0 hc h3 h4 (by omega) h5
    exact this.mono fun e w' ⟨a, b⟩ => ⟨by rw [a]; simp, b⟩
  · have hs := h3 start (Nat.le_refl _) h1
    exact ve_lit t g start fin zs w hl h1 h2 c0 hc h3 (hend hs.2.1 hs.2.2.1 hs.2.2.2)

set_option maxRecDepth 100000 in
set_option maxHeartbeats 1000000 in
theorem zzvalueEnd16 (g start fin : Nat) (zs : List Int) (w : World) (hl : zs.length ≤ 65536) (hc : Cells w g zs) (hf : Fin' zs start fin) :
    Calls Try.prog 16 #[.slice (some ⟨g, 0, none⟩) zs.length zs.length, .int .i64 start] w fun e w' => e = .returned (.int .i64 fin) ∧ Below w.heap.size w w' := by
  have hal : ∀ o, Below w.heap.size w (w.alloc o) := fun o => (Below.refl _ _).alloc (Nat.le_refl _) _
  go_enter Try.func16, Try.ntmps16
  go_wp2_with fail
  refine (ve_any w.heap.size g start fin zs _ hl ?_ (hc.below (hal _)) hf).mono ?_
  · simp only [World.cell?, heap_alloc_new]; simp
  · rintro e w' ⟨rfl, rfl⟩
    go_wp2
    go_ret
    exact ⟨rfl, hal _⟩

def DAns (zs : List Int) (start : Nat) (r : Int) : Prop := r = -1 ∨ ∃ e : Nat, r = e ∧ Fin' zs start e

set_option maxRecDepth 100000 in
set_option maxHeartbeats 4000000 in
theorem domain15 (g start : Nat) (zs : List Int) (w : World) (hl : zs.length ≤ 65536) (hs : start < zs.length) (hc : Cells w g zs) :
    Calls Try.prog 15 #[.slice (some ⟨g, 0, none⟩) zs.length zs.length, .int .i64 start] w fun e w' => (∃ r, e = .returned (.int .i64 r) ∧ DAns zs start r) ∧ Below w.heap.size w w' := by
  go_enter Try.func15, Try.ntmps15
  go_wp2_with fail
  refine (jvalue_any g zs hl _ start (Nat.le_refl _) (by omega) w hc).mono ?_
  rintro e w1 ⟨⟨r, rfl, hr⟩, hb⟩
  have HC := hideIt (hc.below hb)
  clear hc
  rcases hr with rfl | ⟨e, rfl, hv⟩
  · go_wp2_with fail
    go_ret
    exact ⟨⟨-1, rfl, .inl rfl⟩, hb⟩
  · have he := hv.2.1
    have HV := hideIt hv
    clear hv
    obtain ⟨c, g1, HCC⟩ := HC.out.at hs
    cases h34 : (c == 34)
    · cases h91 : (c == 91)
      · cases h123 : (c == 123)
        · have n1 : (c != 34) = true := by simpa using h34
          have n2 : (c != 91) = true := by simpa using h91
          have n3 : (c != 123) = true := by simpa using h123
          by_cases hel : e < zs.length
          · obtain ⟨x, g2, HXX⟩ := HC.out.at hel
            cases hx : endsLit x
            · have HX := hideIt hx
              clear hx
              go_wp2_with (go_at_call 21; refine (fol_f _ HX.out).mono ?_; rintro e w' ⟨rfl, rfl⟩)
              go_ret
              exact ⟨⟨-1, rfl, .inl rfl⟩, hb⟩
            · have HX := hideIt hx
              clear hx
              go_wp2_with (go_at_call 21; refine (fol_t _ HX.out).mono ?_; rintro e w' ⟨rfl, rfl⟩)
              go_ret
              exact ⟨⟨e, rfl, .inr ⟨e, rfl, HV.out, fun _ _ _ _ => HXX.out ▸ HX.out⟩⟩, hb⟩
          · go_wp2_with fail
            go_ret
            exact ⟨⟨e, rfl, .inr ⟨e, rfl, HV.out, fun _ _ _ h => absurd h (by omega)⟩⟩, hb⟩
        · obtain rfl : c = 123 := by simpa using h123
          clear h34 h91
          go_wp2_with fail
          go_ret
          exact ⟨⟨e, rfl, .inr ⟨e, rfl, HV.out, fun _ _ h _ => absurd HCC.out.symm h⟩⟩, hb⟩
      · obtain rfl : c = 91 := by simpa using h91
        clear h34
        go_wp2_with fail
        go_ret
        exact ⟨⟨e, rfl, .inr ⟨e, rfl, HV.out, fun _ h _ _ => absurd HCC.out.symm h⟩⟩, hb⟩
    · obtain rfl : c = 34 := by simpa using h34
      go_wp2_with fail
      go_ret
      exact ⟨⟨e, rfl, .inr ⟨e, rfl, HV.out, fun h _ _ _ => absurd HCC.out.symm h⟩⟩, hb⟩

set_option maxRecDepth 100000 in
set_option maxHeartbeats 1000000 in
theorem fnval_early (a : Option Addr) (len cap : Nat) (pos : Int) (w : World) (hl : len ≤ maxLen) (h : 65536 < len ∨ pos < 0 ∨ len ≤ pos) :
    Calls Try.prog 5 #[.slice a len cap, .int .i64 pos] w fun e w' => e = .returned (.bool true) ∧ Below w.heap.size w w' := by
  by_cases hb : len ≤ 1048576
  · have hd := hideIt (show decide (len ≤ 1048576) = true by simp [hb])
    go_enter Try.func5, Try.ntmps5
    go_wp2_with fail
    refine (bytes14 a len cap pos w hl).mono ?_
    rintro e w' ⟨rfl, hw⟩
    replace hw := hw.symm
    subst hw
    rw [hd.out]
    by_cases h2 : 65536 < len
    · go_wp2_with fail
      go_ret
      exact ⟨rfl, Below.refl _ _⟩
    · by_cases h3 : pos < 0
      · clear h
        go_wp2_with fail
        go_ret
        exact ⟨rfl, Below.refl _ _⟩
      · have h4 : len ≤ pos := by omega
        clear h
        go_wp2_with fail
        go_ret
        exact ⟨rfl, Below.refl _ _⟩
  · have hd := hideIt (show decide (len ≤ 1048576) = false by simp; omega)
    clear h
    go_enter Try.func5, Try.ntmps5
    go_wp2_with fail
    refine (bytes14 a len cap pos w hl).mono ?_
    rintro e w' ⟨rfl, hw⟩
    replace hw := hw.symm
    subst hw
    rw [hd.out]
    go_wp2_with fail
    go_ret
    exact ⟨rfl, Below.refl _ _⟩

set_option maxRecDepth 100000 in
set_option maxHeartbeats 2000000 in
theorem fnval_main (v : Value) (zs : List Int) (start : Nat) (w : World) (hl : zs.length ≤ 65536) (hs : start < zs.length) (hv : Slc .u8 w v zs) :
    Calls Try.prog 5 #[v, .int .i64 start] w fun e w' => e = .returned (.bool true) ∧ Below w.heap.size w w' := by
  obtain ⟨a, cap, rfl, -⟩ := id hv
  have hd := hideIt (show decide (zs.length ≤ 1048576) = true by simp; omega)
  go_enter Try.func5, Try.ntmps5
  go_wp2_with fail
  refine (bytes14 a zs.length cap start w (by unfold maxLen; omega)).mono ?_
  rintro e w' ⟨rfl, hw⟩
  replace hw := hw.symm
  subst hw
  rw [hd.out]
  go_wp2_with fail
  refine (clone_any _ zs w (by omega) hv).mono ?_
  rintro e w1 ⟨a1, rfl, hc1, hb1⟩
  obtain ⟨g, rfl, hcs⟩ := hc1 (by omega)
  clear hc1
  go_wp2_with fail
  refine (domain15 g start zs w1 hl hs hcs).mono ?_
  rintro e w2 ⟨⟨r, rfl, hr⟩, hb2⟩
  replace hcs := hcs.below hb2
  have hb := hb1.trans (hb2.mono hb1.size)
  clear hb1 hb2
  rcases hr with rfl | ⟨j, rfl, hp⟩
  · go_wp2_with fail
    go_ret
    exact ⟨rfl, hb⟩
  · have hlt := hp.1.2.1
    go_wp2_with fail
    refine (zzvalueEnd16 g start j zs w2 hl hcs hp).mono ?_
    rintro e w3 ⟨rfl, hb3⟩
    clear hp
    go_wp2_with fail
    go_ret
    exact ⟨rfl, hb.trans (hb3.mono hb.size)⟩

theorem fnval_any (a : Option Addr) (len cap : Nat) (zs : List Int) (pos : Int) (w : World) (hm : len ≤ maxLen) (hz : zs.length = len) (hv : Slc .u8 w (.slice a len cap) zs) :
    Calls Try.prog 5 #[.slice a len cap, .int .i64 pos] w fun e w' => e = .returned (.bool true) ∧ Below w.heap.size w w' := by
  by_cases h : 65536 < len ∨ pos < 0 ∨ len ≤ pos
  · exact fnval_early a len cap pos w hm h
  · obtain ⟨n, rfl⟩ : ∃ n : Nat, pos = n := ⟨pos.toNat, by omega⟩
    exact fnval_main _ zs n w (by omega) (by omega) hv

end Go.Proofs.Qxb6604001a
