/- askConsistent computes 'consGo'. -/
import Derived.Test.Qxb6603956aBase
import Derived.Test.Qxb6603956aPlain
namespace Go.Proofs.Qxb6603956a
open Go.RowKit
set_option linter.unusedVariables false

theorem map_set_int (K : IntKind) (W : List Int) (i : Nat) (y : Int) : (W.map (Value.int K)).set i (.int K y) = (W.set i y).map (Value.int K) := by
  rw [List.map_set]

theorem ret_bool {a b : Bool} (h : a = b) : Ending.returned (.bool a) = .returned (.bool b) := by rw [h]

theorem own_some {K : IntKind} {w : World} {base : Nat} {e : TypeId} {a : Option Addr} {n cap : Nat} {zs : List Int} (h : w.ownsRow base e 1 (.slice a n cap) n (zs.map (Value.int K))) (hn : 0 < n) : ∃ g, a = some ⟨g, 0, none⟩ ∧ base ≤ g := by
  rcases h.2 with ⟨h1, h2⟩ | ⟨g, cap', cur, h1, hbg, _⟩
  · omega
  · simp only [Value.slice.injEq] at h1
    exact ⟨g, h1.1, hbg⟩

theorem own_cell {K : IntKind} {w : World} {base : Nat} {e : TypeId} {g n cap : Nat} {zs : List Int} (h : w.ownsRow base e 1 (.slice (some ⟨g, 0, none⟩) n cap) n (zs.map (Value.int K))) (i : Nat) (hi : i < n) : w.cell? ⟨g, i, none⟩ = some (.int K (zs.getD i 0)) := by
  have hl : zs.length = n := by simpa using h.1
  rw [h.cellAt i (by omega)]
  simp [List.getElem?_eq_getElem (show i < zs.length by omega)]

theorem consGo_neg (x : Int) (A W : List Int) (h : x < 0) : consGo (x :: A) W = false := by simp [consGo, h]
theorem consGo_far (x : Int) (A W : List Int) (h : ¬ x / 64 < (W.length : Int)) : consGo (x :: A) W = false := by simp [consGo, h]
theorem consGo_off (x : Int) (A W : List Int) (h : hasB (W.getD (x / 64).toNat 0) x = false) : consGo (x :: A) W = false := by simp only [consGo, h]; simp
theorem consGo_on (x : Int) (A W : List Int) (h0 : ¬ x < 0) (h1 : x / 64 < (W.length : Int)) (h : hasB (W.getD (x / 64).toNat 0) x = true) : consGo (x :: A) W = consGo A (W.set (x / 64).toNat (clrB (W.getD (x / 64).toNat 0) x)) := by
  simp only [consGo, h, h0, h1, if_true, if_false]
theorem drop_at (A : List Int) (k : Nat) (h : k < A.length) : A.drop k = A.getD k 0 :: A.drop (k + 1) := by
  rw [List.drop_eq_getElem_cons h]; simp [List.getElem?_eq_getElem h]
theorem all_drop_at (W : List Int) (k : Nat) (h : k < W.length) : (W.drop k).all (fun y => y == 0) = ((W.getD k 0 == 0) && (W.drop (k + 1)).all (fun y => y == 0)) := by
  rw [drop_at W k h]; rfl

set_option maxHeartbeats 1000000 in
set_option maxRecDepth 100000 in
theorem cons_any (va vw : Value) (A M : List Int) (w : World) (hA : A.length ≤ 1048576) (hM : M.length ≤ 1048576) (hb64 : ∀ x ∈ A, x ≤ 9223372036854775807) (ha : Slc .i64 w va A) (hw : Slc .u64 w vw M) :
    Calls Try.prog 21 #[va, vw] w fun e w' => e = .returned (.bool (consGo A M)) ∧ Below w.heap.size w w' := by
  obtain ⟨a, cap, rfl, hc⟩ := id ha
  go_enter Try.func21, Try.ntmps21
  go_wp2_with fail
  refine (clone22_any vw M w hM hw).mono ?_
  rintro e w1 ⟨v', rfl, hown, hb, -⟩
  obtain ⟨aw, cw, hvw, -⟩ := Slc.own hown
  subst hvw
  go_wp2
  go_loopw [6] (fun i wr => ∃ k : Nat, ∃ W : List Int, k ≤ A.length ∧ W.length = M.length ∧ i = .int .i64 k ∧ wr.ownsRow w.heap.size 77 1 (.slice aw M.length cw) M.length (W.map (Value.int .u64)) ∧ Below w.heap.size w wr ∧ consGo A M = consGo (A.drop k) W) (fun i _ => A.length - (intOf i).toNat)
  case atStart => exact ⟨0, M, Nat.zero_le _, rfl, rfl, hown, hb, rfl⟩
  case round =>
    clear hown hb
    obtain ⟨k, W, hk, hW, rfl, hown, hb, hgo⟩ := hrel
    have HW : Hid (W.length = M.length) := hW
    have HG : Hid (consGo A M = consGo (A.drop k) W) := hgo
    clear hW hgo
    by_cases hlt : k < A.length
    · obtain ⟨b, o, rfl, hcell, hbb⟩ := hc k hlt
      have g1 : wr.cell? ⟨b, o + k, none⟩ = some (.int .i64 (A.getD k 0)) := (hb.cell (p := ⟨b, o + k, none⟩) hbb).trans hcell
      have HG2 : Hid (consGo A M = consGo (A.getD k 0 :: A.drop (k + 1)) W) := by rw [← drop_at A k hlt]; exact HG
      have hx1 : A.getD k 0 ≤ 9223372036854775807 := by
        rw [List.getD_eq_getElem?_getD, List.getElem?_eq_getElem hlt]; exact hb64 _ (List.getElem_mem hlt)
      obtain ⟨x, hx⟩ : ∃ x, x = A.getD k 0 := ⟨_, rfl⟩
      rw [← hx] at g1 HG2 hx1
      clear hb64
      clear hx hc hcell HG ha hw
      by_cases h0 : x < 0
      · go_wp2
        go_ret
        exact ⟨ret_bool (by rw [HG2.out, consGo_neg _ _ _ h0]), hb⟩
      · by_cases h1 : x / 64 < (M.length : Int)
        · obtain ⟨g, rfl, hgb⟩ := own_some hown (by omega)
          have g2 : wr.cell? ⟨g, (x/64).toNat, none⟩ = some (.int .u64 (W.getD (x/64).toNat 0)) := own_cell hown _ (by omega)
          have g3 : wr.frozen? ⟨g, (x/64).toNat, none⟩ = false := hown.frozenAt _
          have HG3 : Hid (hasB (W.getD (x / 64).toNat 0) x = true → consGo A M = consGo (A.drop (k + 1)) (W.set (x / 64).toNat (clrB (W.getD (x / 64).toNat 0) x))) := fun h => by
            rw [HG2.out, consGo_on _ _ _ h0 (by rw [HW.out]; exact h1) h]
          have HG4 : Hid (hasB (W.getD (x / 64).toNat 0) x = false → consGo A M = false) := fun h => by rw [HG2.out, consGo_off _ _ _ h]
          have hst := (hown.stored (x / 64).toNat (.int .u64 (clrB (W.getD (x / 64).toNat 0) x))).1
          rw [map_set_int] at hst
          obtain ⟨W', hW'⟩ : ∃ W', W' = W.set (x / 64).toNat (clrB (W.getD (x / 64).toNat 0) x) := ⟨_, rfl⟩
          have HL : Hid (W'.length = M.length) := by rw [hW', List.length_set]; exact HW
          rw [← hW'] at hst HG3
          clear hW'
          obtain ⟨y, hy⟩ : ∃ y, y = W.getD (x/64).toNat 0 := ⟨_, rfl⟩
          rw [← hy] at g2 HG3 HG4 hst
          have hb' : Below w.heap.size w (wr.setCell ⟨g, (x / 64).toNat, none⟩ (.int .u64 (clrB y x))) := hb.setCell hgb _
          clear hy HW HG2 hown
          go_wp2
          · go_ret
            rename_i hz
            exact ⟨ret_bool (by rw [HG4.out (by unfold hasB bitOf; rw [hz]; rfl)]), hb⟩
          · rename_i hz
            go_roundw
            case rel => exact ⟨k + 1, W', by omega, HL.out, by go_num, hst, hb', HG3.out (by unfold hasB bitOf; rw [hz]; rfl)⟩
            case measure => simp [intOf]; omega
        · have h1' : (M.length : Int) ≤ x / 64 := by omega
          have HN : Hid (¬ x / 64 < (M.length : Int)) := h1
          clear h1
          go_wp2
          go_ret
          exact ⟨ret_bool (by rw [HG2.out, consGo_far _ _ _ (by rw [HW.out]; exact (by have := HN.out; omega))]), hb⟩
    · have hk' : k = A.length := by omega
      have HG5 : Hid (consGo A M = (W.drop 0).all (fun y => y == 0)) := by
        rw [HG.out, hk', List.drop_length]; rfl
      clear HG hk' ha hw hc
      go_wp2
      go_loop [9] (fun i => ∃ j : Nat, j ≤ M.length ∧ i = .int .i64 j ∧ consGo A M = (W.drop j).all (fun y => y == 0)) (fun i => M.length - (intOf i).toNat)
      case atStart => exact ⟨0, Nat.zero_le _, rfl, HG5⟩
      case round =>
        obtain ⟨j, hj, rfl, hgo⟩ := hrel
        have HG6 : Hid (consGo A M = (W.drop j).all (fun y => y == 0)) := hgo
        clear hgo HG5
        by_cases hjl : j < M.length
        · obtain ⟨g, rfl, hgb⟩ := own_some hown (by omega)
          have g2 : wr.cell? ⟨g, j, none⟩ = some (.int .u64 (W.getD j 0)) := own_cell hown _ (by omega)
          have HG7 : Hid (consGo A M = ((W.getD j 0 == 0) && (W.drop (j + 1)).all (fun y => y == 0))) := by
            rw [← all_drop_at W j (by rw [HW.out]; exact hjl)]; exact HG6
          obtain ⟨y, hy⟩ : ∃ y, y = W.getD j 0 := ⟨_, rfl⟩
          rw [← hy] at g2 HG7
          clear hy HG6
          cases hy0 : (y == 0)
          rotate_left
          · have hy1 : (y != 0) = false := by rw [bne, hy0]; rfl
            have HG8 : Hid (consGo A M = (W.drop (j + 1)).all (fun y => y == 0)) := by rw [HG7.out, hy0]; rfl
            clear HG7 hy0
            go_wp2
            go_round
            case rel => exact ⟨j + 1, by omega, by go_num, HG8⟩
            case measure => simp [intOf]; omega
          · have hy1 : (y != 0) = true := by rw [bne, hy0]; rfl
            have HG8 : Hid (consGo A M = false) := by rw [HG7.out, hy0]; rfl
            clear HG7 hy0
            go_wp2
            go_ret
            exact ⟨ret_bool HG8.out.symm, hb⟩
        · have HG8 : Hid (consGo A M = true) := by rw [HG6.out, List.drop_of_length_le (by rw [HW.out]; omega)]; rfl
          go_wp2
          go_ret
          exact ⟨ret_bool HG8.out.symm, hb⟩
end Go.Proofs.Qxb6603956a
