/- FnEscapedRuneReadsWhatIsWritten, walked. -/
import Derived.Test.Qxb6604313aRune
import Derived.Laws.AppendOwnNone
namespace Go.Proofs.Qxb6604313a
open Go.RowKit
set_option linter.unusedVariables false

set_option maxRecDepth 100000 in
set_option maxHeartbeats 1000000 in
theorem fn_early (x y : Int) (a : Option Addr) (len cap : Nat) (w : World) (hl : len ≤ maxLen) (h : 1048576 < len) :
    Calls Try.prog 3 #[.int .u16 x, .int .u8 y, .slice a len cap] w fun e w' => e = .returned (.bool true) ∧ Below w.heap.size w w' := by
  have hd := hideIt (show decide (len ≤ 1048576) = false by simp; omega)
  clear h
  go_enter Try.func3, Try.ntmps3
  go_wp2_with fail
  refine (bytes7 x y a len cap w hl).mono ?_
  rintro e w' ⟨rfl, hw⟩
  replace hw := hw.symm
  subst hw
  rw [hd.out]
  go_wp2_with fail
  go_ret
  exact ⟨rfl, Below.refl _ _⟩

/-- The bytes written after k digits. -/
def wrote (xs : List Int) : List Value := Value.int .u8 92 :: Value.int .u8 117 :: xs.map (Value.int .u8)

theorem cell_new (W : World) (n : Nat) (h : n = W.heap.size) (vs : Array Value) (t : TypeId) : ∀ (j : Nat) u, vs.toList[j]? = some u → (W.alloc (.cells vs t)).cell? ((⟨n, 0, none⟩ : Addr).add j) = some u := by
  intro j u hj
  subst h
  have ha : (⟨W.heap.size, 0, none⟩ : Addr).add j = ⟨W.heap.size, j, none⟩ := by unfold Addr.add; split <;> simp_all
  rw [ha]
  unfold World.cell?
  simp only [heap_alloc_new]
  simpa using hj

theorem below_grown {B : Nat} {w0 w w' : World} {e : TypeId} {v : Value} {n : Nat} {xs : List Value} (hb : Below B w0 w) (ho : w.ownsRow B e 1 v n xs) (hBw : B ≤ w.heap.size) (hg : w.grownBy w' v.ownBlock) : Below B w0 w' :=
  hb.grown hg hBw (fun k hk => (ho.lt k hk).1)

theorem wrote_next (xs : List Int) (c : Int) : wrote (xs ++ [c]) = wrote xs ++ [.int .u8 c] := by simp [wrote]
theorem digits_next {x c : Int} {k : Nat} {xs : List Int} {u : Bool} (hl : xs.length = k) (h : ∀ j, j < k → ∃ u, xs.getD j 0 = hexOut (nib x j) u) (hc : c = hexOut (nib x k) u) :
    ∀ j, j < k + 1 → ∃ u, (xs ++ [c]).getD j 0 = hexOut (nib x j) u := by
  intro j hj
  by_cases hjk : j < k
  · obtain ⟨u, hu⟩ := h j hjk
    refine ⟨u, ?_⟩
    rw [← hu]
    simp [List.getElem?_append_left (show j < xs.length by omega)]
  · obtain rfl : j = k := by omega
    exact ⟨u, by rw [← hc]; simp [← hl]⟩

theorem read_back (x : Int) (hx0 : 0 ≤ x) (hx1 : x < 65536) (v : Value) (n : Nat) (xs : List Int) (rest : List Value) (w : World) (base : Nat) (ho : w.ownsRow base 5 1 v n (wrote xs ++ rest)) (hn : 6 ≤ n) (hn2 : n ≤ 2097152)
    (hxl : xs.length = 4) (hxs : ∀ j, j < 4 → ∃ u, xs.getD j 0 = hexOut (nib x j) u) :
    Calls Try.prog 10 #[v] w fun e w' => e = .returned (.int .i32 x) ∧ w = w' := by
  obtain ⟨ub, hub⟩ : ∃ ub : Nat → Bool, ∀ j, j < 4 → xs.getD j 0 = hexOut (nib x j) (ub j) := by
    refine Classical.axiomOfChoice (r := fun j u => j < 4 → xs.getD j 0 = hexOut (nib x j) u) fun j => ?_
    by_cases hj : j < 4
    · obtain ⟨u, hu⟩ := hxs j hj
      exact ⟨u, fun _ => hu⟩
    · exact ⟨true, fun h => absurd h hj⟩
  obtain ⟨g, cap, cur, rfl, hbg, hg, hnc, hcm, hcs, htake⟩ := (ho.2).resolve_left (by rintro ⟨-, h⟩; omega)
  have hcell : ∀ i, i < n → w.cell? ⟨g, i, none⟩ = (wrote xs ++ rest)[i]? := fun i hi => ho.cellAt i (by omega)
  have := zzescaped10 g n cap (nib x) ub w hn hn2 hnc hcm (nib_bound x) ((hcell 0 (by omega)).trans (by simp [wrote])) ((hcell 1 (by omega)).trans (by simp [wrote])) (fun k hk => ?_)
  · rw [pre_nib x hx0 hx1] at this
    exact this
  · rw [hcell (2 + k) (by omega), ← hub k hk]
    have h1 : 2 + k = k + 1 + 1 := by omega
    rw [h1]
    simp [wrote, List.getElem?_append_left (show k < (xs.map (Value.int .u8)).length by simp; omega), List.getElem?_eq_getElem (show k < xs.length by omega)]

set_option maxRecDepth 100000 in
set_option maxHeartbeats 4000000 in
theorem fn_main (x y : Int) (v : Value) (zs : List Int) (w : World) (hx0 : 0 ≤ x) (hx1 : x < 65536) (hy0 : 0 ≤ y) (hy1 : y < 256) (hl : zs.length ≤ 1048576) (hv : Slc .u8 w v zs) :
    Calls Try.prog 3 #[.int .u16 x, .int .u8 y, v] w fun e w' => e = .returned (.bool true) ∧ Below w.heap.size w w' := by
  obtain ⟨a, cap, rfl, -⟩ := id hv
  have hd := hideIt (show decide (zs.length ≤ 1048576) = true by simp; omega)
  obtain ⟨i0, hi, hz0, hz1, hz2⟩ := info_parts Try.info5
  go_enter Try.func3, Try.ntmps3
  go_wp2_with fail
  refine (bytes7 x y a zs.length cap w (by unfold maxLen; omega)).mono ?_
  rintro e w' ⟨rfl, hw⟩
  replace hw := hw.symm
  subst hw
  rw [hd.out]
  go_wp2_with fail
  refine (clone_any _ zs w hl hv).mono ?_
  rintro e w1 ⟨a1, rfl, ho1, hb1⟩
  clear hv
  have HO1 := hideIt ho1
  clear ho1
  go_wp2_with (at_make; refine wpList_make_own _ rfl _ _ 23 rfl w1.heap.size 5 i0 (.int .u8 0) 1 Try.underlying23 hi hz0 hz1 _ _ _ (6 + zs.length) rfl rfl ?b1 ?b2 ?b3 ?b4 ?_)
  case b1 => go_num
  case b2 => rw [hz2]; omega
  case b3 => unfold maxLen; omega
  case b4 => omega
  intro w2 ho2 hg2
  have hb2 : Below w1.heap.size w1 w2 := (Below.refl _ _).grown hg2 (Nat.le_refl _) (by simp)
  clear hg2
  go_wp2_with (at_builtin; refine wpList_append_own _ rfl _ _ 23 rfl w1.heap.size 5 i0 (.int .u8 0) 1 1 Try.underlying23 hi hz0 hz1 hz2 rfl (by decide) _ _ _ rfl (ho2.alloc _) ⟨w2.heap.size, 0, none⟩ 2 2 [.int .u8 92, .int .u8 117] rfl rfl ?c1 ?c2 ?c3 ?c4 ?c5 ?_)
  case c1 => exact cell_new w2 _ rfl _ _
  case c2 => intro u hu; simp at hu; rcases hu with rfl | rfl <;> rfl
  case c3 => unfold maxLen; omega
  case c4 => omega
  case c5 => have := hb2.size; simp; omega
  intro v3 w3 ho3 hg3 hnil
  have hb3 : Below w1.heap.size w1 w3 := below_grown (hb2.alloc hb2.size _) (ho2.alloc _) (by have := hb2.size; simp; omega) hg3
  have ho3' : w3.ownsRow w1.heap.size 5 1 v3 2 (wrote []) := ho3
  clear ho3 hnil hg3 ho2 hb2
  go_wp2_with fail
  simp only [show decide (1048576 < (zs.length : Int)) = false from decide_eq_false (by omega)]
  go_loopw [7, 8] (fun b i wr => ∃ (k : Nat) (xs : List Int), k ≤ 4 ∧ i = .int .i64 k ∧ xs.length = k ∧ (∀ j, j < k → ∃ u, xs.getD j 0 = hexOut (nib x j) u) ∧ wr.ownsRow w1.heap.size 5 1 b (2 + k) (wrote xs) ∧ Below w1.heap.size w1 wr) (fun _ i _ => 4 - (intOf i).toNat)
  case atStart => exact ⟨0, [], by omega, rfl, rfl, fun j hj => by omega, ho3', hb3⟩
  case round =>
    clear ho3' hb3
    obtain ⟨k, xs, hk, rfl, hxl, hxs, hob, hb⟩ := hrel
    have HX := hideIt hxs
    have HXL := hideIt hxl
    have HOB := hideIt hob
    clear hxs hob hxl
    by_cases hlt : k < 4
    · have h4 : k = 0 ∨ k = 1 ∨ k = 2 ∨ k = 3 := by omega
      clear hlt hk
      rcases h4 with rfl | rfl | rfl | rfl
      · go_wp2_with fail
        rw [u16_and15 (x / 4096) (by omega) (by omega)]
        generalize (bits BinOp.and IntKind.u8 y 1 != 0) = u
        refine (hexOut9 (x / 4096 % 16) u wr (by omega) (by omega)).mono ?_
        rintro e w' ⟨rfl, rfl⟩
        obtain ⟨c, hc⟩ : ∃ c, c = hexOut (x / 4096 % 16) u := ⟨_, rfl⟩
        rw [← hc]
        have HCX := hideIt hc
        clear hc
        have hsz := hb.size
        go_wp2_with (at_builtin; refine wpList_append_own _ rfl _ _ 23 rfl w1.heap.size 5 i0 (.int .u8 0) 1 1 Try.underlying23 hi hz0 hz1 hz2 rfl (by decide) _ _ _ rfl (HOB.out.alloc _) ⟨wr.heap.size, 0, none⟩ 1 1 [.int .u8 c] rfl rfl ?c1 ?c2 ?c3 ?c4 ?c5 ?_)
        case c1 => exact cell_new wr _ rfl _ _
        case c2 => intro u hu; simp at hu; subst hu; rfl
        case c3 => unfold maxLen; omega
        case c4 => omega
        case c5 => simp; omega
        intro v4 w4 ho4 hg4 hnil
        have hb4 : Below w1.heap.size w1 w4 := below_grown (hb.alloc hsz _) (HOB.out.alloc _) (by simp; omega) hg4
        have HO4 : Hid (w4.ownsRow w1.heap.size 5 1 v4 (2 + (0 + 1)) (wrote (xs ++ [c]))) := by
          show World.ownsRow _ _ _ _ _ _ _
          rw [wrote_next]; exact ho4
        clear ho4 hnil hg4 HOB hb
        go_wp2_with fail
        go_roundw
        case rel => exact ⟨0 + 1, xs ++ [c], by omega, by go_num, by simp [HXL.out], digits_next HXL.out HX.out (show c = hexOut (nib x 0) u from HCX.out), HO4.out, hb4⟩
        case measure => simp [intOf]
      · go_wp2_with fail
        rw [u16_and15 (x / 256) (by omega) (by omega)]
        generalize (bits BinOp.and IntKind.u8 y 2 != 0) = u
        refine (hexOut9 (x / 256 % 16) u wr (by omega) (by omega)).mono ?_
        rintro e w' ⟨rfl, rfl⟩
        obtain ⟨c, hc⟩ : ∃ c, c = hexOut (x / 256 % 16) u := ⟨_, rfl⟩
        rw [← hc]
        have HCX := hideIt hc
        clear hc
        have hsz := hb.size
        go_wp2_with (at_builtin; refine wpList_append_own _ rfl _ _ 23 rfl w1.heap.size 5 i0 (.int .u8 0) 1 1 Try.underlying23 hi hz0 hz1 hz2 rfl (by decide) _ _ _ rfl (HOB.out.alloc _) ⟨wr.heap.size, 0, none⟩ 1 1 [.int .u8 c] rfl rfl ?c1 ?c2 ?c3 ?c4 ?c5 ?_)
        case c1 => exact cell_new wr _ rfl _ _
        case c2 => intro u hu; simp at hu; subst hu; rfl
        case c3 => unfold maxLen; omega
        case c4 => omega
        case c5 => simp; omega
        intro v4 w4 ho4 hg4 hnil
        have hb4 : Below w1.heap.size w1 w4 := below_grown (hb.alloc hsz _) (HOB.out.alloc _) (by simp; omega) hg4
        have HO4 : Hid (w4.ownsRow w1.heap.size 5 1 v4 (2 + (1 + 1)) (wrote (xs ++ [c]))) := by
          show World.ownsRow _ _ _ _ _ _ _
          rw [wrote_next]; exact ho4
        clear ho4 hnil hg4 HOB hb
        go_wp2_with fail
        go_roundw
        case rel => exact ⟨1 + 1, xs ++ [c], by omega, by go_num, by simp [HXL.out], digits_next HXL.out HX.out (show c = hexOut (nib x 1) u from HCX.out), HO4.out, hb4⟩
        case measure => simp [intOf]
      · go_wp2_with fail
        rw [u16_and15 (x / 16) (by omega) (by omega)]
        generalize (bits BinOp.and IntKind.u8 y 4 != 0) = u
        refine (hexOut9 (x / 16 % 16) u wr (by omega) (by omega)).mono ?_
        rintro e w' ⟨rfl, rfl⟩
        obtain ⟨c, hc⟩ : ∃ c, c = hexOut (x / 16 % 16) u := ⟨_, rfl⟩
        rw [← hc]
        have HCX := hideIt hc
        clear hc
        have hsz := hb.size
        go_wp2_with (at_builtin; refine wpList_append_own _ rfl _ _ 23 rfl w1.heap.size 5 i0 (.int .u8 0) 1 1 Try.underlying23 hi hz0 hz1 hz2 rfl (by decide) _ _ _ rfl (HOB.out.alloc _) ⟨wr.heap.size, 0, none⟩ 1 1 [.int .u8 c] rfl rfl ?c1 ?c2 ?c3 ?c4 ?c5 ?_)
        case c1 => exact cell_new wr _ rfl _ _
        case c2 => intro u hu; simp at hu; subst hu; rfl
        case c3 => unfold maxLen; omega
        case c4 => omega
        case c5 => simp; omega
        intro v4 w4 ho4 hg4 hnil
        have hb4 : Below w1.heap.size w1 w4 := below_grown (hb.alloc hsz _) (HOB.out.alloc _) (by simp; omega) hg4
        have HO4 : Hid (w4.ownsRow w1.heap.size 5 1 v4 (2 + (2 + 1)) (wrote (xs ++ [c]))) := by
          show World.ownsRow _ _ _ _ _ _ _
          rw [wrote_next]; exact ho4
        clear ho4 hnil hg4 HOB hb
        go_wp2_with fail
        go_roundw
        case rel => exact ⟨2 + 1, xs ++ [c], by omega, by go_num, by simp [HXL.out], digits_next HXL.out HX.out (show c = hexOut (nib x 2) u from HCX.out), HO4.out, hb4⟩
        case measure => simp [intOf]
      · go_wp2_with fail
        rw [u16_and15 (x) (by omega) (by omega)]
        generalize (bits BinOp.and IntKind.u8 y 8 != 0) = u
        refine (hexOut9 (x % 16) u wr (by omega) (by omega)).mono ?_
        rintro e w' ⟨rfl, rfl⟩
        obtain ⟨c, hc⟩ : ∃ c, c = hexOut (x % 16) u := ⟨_, rfl⟩
        rw [← hc]
        have HCX := hideIt hc
        clear hc
        have hsz := hb.size
        go_wp2_with (at_builtin; refine wpList_append_own _ rfl _ _ 23 rfl w1.heap.size 5 i0 (.int .u8 0) 1 1 Try.underlying23 hi hz0 hz1 hz2 rfl (by decide) _ _ _ rfl (HOB.out.alloc _) ⟨wr.heap.size, 0, none⟩ 1 1 [.int .u8 c] rfl rfl ?c1 ?c2 ?c3 ?c4 ?c5 ?_)
        case c1 => exact cell_new wr _ rfl _ _
        case c2 => intro u hu; simp at hu; subst hu; rfl
        case c3 => unfold maxLen; omega
        case c4 => omega
        case c5 => simp; omega
        intro v4 w4 ho4 hg4 hnil
        have hb4 : Below w1.heap.size w1 w4 := below_grown (hb.alloc hsz _) (HOB.out.alloc _) (by simp; omega) hg4
        have HO4 : Hid (w4.ownsRow w1.heap.size 5 1 v4 (2 + (3 + 1)) (wrote (xs ++ [c]))) := by
          show World.ownsRow _ _ _ _ _ _ _
          rw [wrote_next]; exact ho4
        clear ho4 hnil hg4 HOB hb
        go_wp2_with fail
        go_roundw
        case rel => exact ⟨3 + 1, xs ++ [c], by omega, by go_num, by simp [HXL.out], digits_next HXL.out HX.out (show c = hexOut (nib x 3) u from HCX.out), HO4.out, hb4⟩
        case measure => simp [intOf]
    · obtain rfl : k = 4 := by omega
      have hsz := hb.size
      have hbw : Below w.heap.size w wr := hb1.trans (hb.mono hb1.size)
      rcases HO1.out.2 with ⟨hnil, h0⟩ | ⟨g, cap1, cur, hval, hbg, hg, hnc, hcm, hcs, htake⟩
      · have hz : zs = [] := List.eq_nil_of_length_eq_zero h0
        subst hz
        have ha1 : a1 = none := by simpa using hnil
        subst ha1
        clear hnil h0
        go_wp2_with (at_builtin; refine wpList_append_own_none rfl _ _ 23 rfl w1.heap.size 5 i0 1 Try.underlying23 hi _ _ _ rfl HOB.out rfl ?_)
        go_wp2_with fail
        refine (read_back x hx0 hx1 _ _ xs [] wr w1.heap.size (by rw [List.append_nil]; exact HOB.out) (by omega) (by omega) HXL.out HX.out).mono ?_
        rintro e w' ⟨rfl, rfl⟩
        go_wp2_with fail
        go_ret
        exact ⟨rfl, hbw⟩
      · have hv1 : a1 = some ⟨g, 0, none⟩ ∧ zs.length = cap1 := by simpa using hval
        obtain ⟨rfl, rfl⟩ := hv1
        have hgl := lt_of_heap hg
        obtain ⟨news, hnews⟩ : ∃ news, news = zs.map (Value.int .u8) := ⟨_, rfl⟩
        have hnl : news.length = zs.length := by simp [hnews]
        have hcells : ∀ (j : Nat) u, news[j]? = some u → wr.cell? ((⟨g, 0, none⟩ : Addr).add j) = some u := by
          intro j u hj
          have ha : ((⟨g, 0, none⟩ : Addr).add j).block = g := by unfold Addr.add; split <;> rfl
          refine (hb.cell (by rw [ha]; exact hgl)).trans ?_
          rw [hnews] at hj
          exact HO1.out.cells rfl j u hj
        have hone : ∀ u ∈ news, u.oneCell' = true := by
          rw [hnews]; intro v hv; obtain ⟨z, _, rfl⟩ := List.mem_map.1 hv; rfl
        have HNL := hideIt hnl
        have HCE := hideIt hcells
        have HON := hideIt hone
        clear hval hbg hg hnc hcm hcs htake hnews hnl hcells hone
        go_wp2_with (at_builtin; refine wpList_append_own _ rfl _ _ 23 rfl w1.heap.size 5 i0 (.int .u8 0) 1 1 Try.underlying23 hi hz0 hz1 hz2 rfl (by decide) _ _ _ rfl HOB.out ⟨g, 0, none⟩ zs.length zs.length news rfl ?c0 HCE.out HON.out ?c3 ?c4 ?c5 ?_)
        case c0 => rw [HNL.out]; omega
        case c3 => unfold maxLen; omega
        case c4 => omega
        case c5 => omega
        intro v4 w4 ho4 hg4 hnil
        have hb4 : Below w1.heap.size w1 w4 := below_grown hb HOB.out hsz hg4
        have HO4 := hideIt ho4
        have hbw4 : Below w.heap.size w w4 := hb1.trans (hb4.mono hb1.size)
        clear ho4 hnil hg4
        go_wp2_with fail
        refine (read_back x hx0 hx1 _ _ xs news w4 w1.heap.size HO4.out (by omega) (by omega) HXL.out HX.out).mono ?_
        rintro e w' ⟨rfl, rfl⟩
        go_wp2_with fail
        go_ret
        exact ⟨rfl, hbw4⟩

theorem fn_any (x y : Int) (a : Option Addr) (len cap : Nat) (zs : List Int) (w : World) (hx0 : 0 ≤ x) (hx1 : x < 65536) (hy0 : 0 ≤ y) (hy1 : y < 256) (hm : len ≤ maxLen) (hz : zs.length = len) (hv : Slc .u8 w (.slice a len cap) zs) :
    Calls Try.prog 3 #[.int .u16 x, .int .u8 y, .slice a len cap] w fun e w' => e = .returned (.bool true) ∧ Below w.heap.size w w' := by
  by_cases h : 1048576 < len
  · exact fn_early x y a len cap w hm h
  · exact fn_main x y _ zs w hx0 hx1 hy0 hy1 (by omega) hv

end Go.Proofs.Qxb6604313a
