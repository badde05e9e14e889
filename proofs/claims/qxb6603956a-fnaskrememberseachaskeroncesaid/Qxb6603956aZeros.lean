/- 'append(s, make([]T, n)...)' ON A SLICE THAT THE CALL OWNS: n zeros behind what was there. The model has it as one builtin (the second argument is a number); the kit's laws on append speak of slices alone. -/
import Derived.Test.Qxb6603956aProg
import Derived.WalkKit
import Derived.Deep.RegionLawGrows
namespace Go.Proofs.Qxb6603956a
open Go.RowKit
set_option linter.unusedVariables false

theorem zeroCells_one (z : Value) (n : Nat) : Builtin.zeroCells #[z] n = (List.replicate n z).toArray := by
  apply Array.ext'
  simp only [Builtin.zeroCells]
  have := toList_madeCells_one z n
  unfold madeCells at this
  simpa using this

section
variable {P : Program} (w : World)

theorem run_zeros_grow (t ti ty e : TypeId) (i : TypeInfo) (z : Value) (ht : P.underlying t = some (.slice e)) (hti : P.underlying ti = some (.int .i64)) (hi : P.info? e = some i) (hz : i.zero = some z) (hzc : z.cells = #[z]) (hsize : i.size = 1) (hby : i.bytes = 8)
    (v : Value) (sLen sCap : Nat) (ao : Option Addr) (hv : v = .slice ao sLen sCap) (olds : List Value) (hlo : olds.length = sLen) (holds : ∀ b, ao = some b → ∀ j v, olds[j]? = some v → w.cell? (b.add j) = some v) (hnone : ao = none → sLen = 0)
    (m : Nat) (hm : 0 < m) (hm2 : m ≤ 4194304) (hs2 : sLen ≤ 4194304) (hg : sCap < sLen + m) :
    (Builtin.append_ #[t, ti] ty #[v, .int .i64 (m : Int)]).run P w =
      .ok (.slice (some ⟨w.heap.size, 0, none⟩) (sLen + m) (grownCap w (sLen + m) sCap e))
        (w.drew.alloc (.cells (olds.toArray ++ (List.replicate m z).toArray ++ Builtin.zeroCells z.cells (grownCap w (sLen + m) sCap e - (sLen + m))) e)) := by
  subst hv
  have hn : ¬ (sLen + m ≤ sCap) := by omega
  have hfit := growslice_fits (bytes := 8) hg (by omega)
  have h63' : ¬ (9223372036854775807 < ((sLen : Int) + (m : Int))) := by omega
  have h48' : ¬ (281474976710656 < Builtin.nextslicecap (sLen + m) sCap * 8) := by omega
  have hw : IntKind.i64.wrap (m : Int) = (m : Int) := by
    simp [IntKind.wrap, IntKind.bits, IntKind.signed]; omega
  have hneg : ¬ ((m : Int) < 0) := by omega
  have hbig : ¬ (281474976710656 < (m : Int) * 8) := by omega
  have hm0 : m ≠ 0 := by omega
  have hfo : (Builtin.firstCells 1 sLen (.slice ao sLen sCap)).run P w.drew = .ok olds.toArray w.drew := by
    cases ao with
    | none =>
      have := hnone rfl
      subst this
      have : olds = [] := List.eq_nil_of_length_eq_zero hlo
      subst this
      exact run_firstCells_none _ _ _ _ _
    | some b => exact run_firstCells_some (P := P) w.drew 1 sLen b sLen sCap olds (by omega) (by simpa using holds b rfl)
  simp [Builtin.append_, run_underlying ht, run_underlying hti, asInt, asIntOf, hw, hneg, hbig, hm0, sizeOf, typeInfo, zeroValue, hi, hz, hsize, hby, hzc, Builtin.lenOf, hn, h63', h48', Question.forced, hfo, newRow, grownCap, zeroCells_one]

theorem run_zeros_room (t ti ty e : TypeId) (i : TypeInfo) (z : Value) (ht : P.underlying t = some (.slice e)) (hti : P.underlying ti = some (.int .i64)) (hi : P.info? e = some i) (hz : i.zero = some z) (hzc : z.cells = #[z]) (hz1 : z.oneCell' = true) (hsize : i.size = 1) (hby : i.bytes = 8)
    (g sLen sCap : Nat) (cur : Array Value) (hg : w.heap[g]? = some (.cells cur e (0, 0)))
    (m : Nat) (hm : 0 < m) (hm2 : m ≤ 4194304) (hroom : sLen + m ≤ sCap) (hfit : sLen + m ≤ cur.size) :
    (Builtin.append_ #[t, ti] ty #[.slice (some ⟨g, 0, none⟩) sLen sCap, .int .i64 (m : Int)]).run P w =
      .ok (.slice (some ⟨g, 0, none⟩) (sLen + m) sCap) (w.setRow g (cur.toList.take sLen ++ List.replicate m z ++ cur.toList.drop (sLen + m)).toArray) := by
  have hw : IntKind.i64.wrap (m : Int) = (m : Int) := by
    simp [IntKind.wrap, IntKind.bits, IntKind.signed]; omega
  have hneg : ¬ ((m : Int) < 0) := by omega
  have hbig : ¬ (281474976710656 < (m : Int) * 8) := by omega
  have hm0 : m ≠ 0 := by omega
  have hst := run_storeCells_at P g sLen e (List.replicate m z) 0 cur w hg (by simpa using hfit) (fun u hu => by rw [(List.mem_replicate.1 hu).2]; exact hz1)
  simp only [Nat.add_zero, List.length_replicate] at hst
  simp [Builtin.append_, run_underlying ht, run_underlying hti, asInt, asIntOf, hw, hneg, hbig, hm0, sizeOf, typeInfo, zeroValue, hi, hz, hsize, hby, hzc, Builtin.lenOf, hroom, Addr.add_lit, hst, zeroCells_one]

theorem run_zeros_own (base : Nat) (t ti ty e : TypeId) (i : TypeInfo) (z : Value) (ht : P.underlying t = some (.slice e)) (hti : P.underlying ti = some (.int .i64)) (hi : P.info? e = some i) (hz : i.zero = some z) (hzc : z.cells = #[z]) (hz1 : z.oneCell' = true) (hsize : i.size = 1) (hby : i.bytes = 8)
    (v : Value) (n : Nat) (xs : List Value) (hown : w.ownsRow base e 1 v n xs) (hbase : base ≤ w.heap.size)
    (m : Nat) (hm : 0 < m) (hm2 : m ≤ 4194304) (hn2 : n ≤ 4194304) :
    ∃ v' w', (Builtin.append_ #[t, ti] ty #[v, .int .i64 (m : Int)]).run P w = .ok v' w' ∧ w'.ownsRow base e 1 v' (n + m) (xs ++ List.replicate m z) ∧ w.grownBy w' v.ownBlock := by
  have hxl : xs.length = n := by simpa using hown.1
  have hlen : (xs ++ List.replicate m z).length = (n + m) * 1 := by simp [hxl]
  have grown : ∀ (old : Nat), old < n + m → ∀ (row : Option Nat),
      (w.drew.alloc (.cells (xs.toArray ++ (List.replicate m z).toArray ++ Builtin.zeroCells z.cells (grownCap w (n + m) old e - (n + m))) e)).ownsRow base e 1
        (.slice (some ⟨w.heap.size, 0, none⟩) (n + m) (grownCap w (n + m) old e)) (n + m) (xs ++ List.replicate m z) ∧
      w.grownBy (w.drew.alloc (.cells (xs.toArray ++ (List.replicate m z).toArray ++ Builtin.zeroCells z.cells (grownCap w (n + m) old e - (n + m))) e)) row := by
    intro old ho row
    have hge := grownCap_ge w (n + m) old e
    have hcm : grownCap w (n + m) old e ≤ maxLen := grownCap_le_maxLen w (n + m) old e (by unfold maxLen; omega)
    refine ⟨⟨hlen, .inr ⟨w.heap.size, _, _, rfl, hbase, heap_alloc_new w.drew _, hge, hcm, ?_, ?_⟩⟩, ⟨rfl, rfl, rfl, by simp, fun k hk _ => Below.heap_alloc w.drew _ k hk⟩⟩
    · simp only [Array.size_append, List.size_toArray, size_zeroCells, hzc, hxl, List.length_replicate]
      simp
      omega
    · simp only [Array.toList_append, List.append_assoc]
      rw [← List.append_assoc, ← hlen]
      exact List.take_left
  rcases hown.2 with ⟨rfl, rfl⟩ | ⟨g, cap, cur, rfl, hbg, hg, hnc, hcm, hcs, htake⟩
  · have hx : xs = [] := List.eq_nil_of_length_eq_zero hxl
    subst hx
    have hr := run_zeros_grow (P := P) w t ti ty e i z ht hti hi hz hzc hsize hby (.slice none 0 0) 0 0 none rfl [] rfl (fun b h => by cases h) (fun _ => rfl) m hm hm2 (by omega) (by omega)
    have hgr := grown 0 (by omega) (Value.ownBlock (.slice none 0 0))
    exact ⟨_, _, hr, hgr.1, hgr.2⟩
  · by_cases hroom : n + m ≤ cap
    · have hr := run_zeros_room (P := P) w t ti ty e i z ht hti hi hz hzc hz1 hsize hby g n cap cur hg m hm hm2 hroom (by omega)
      refine ⟨_, _, hr, ⟨hlen, .inr ⟨g, cap, _, rfl, hbg, setRow_heap w g cur _ e _ hg, hroom, hcm, ?_, ?_⟩⟩, ⟨rfl, rfl, rfl, by simp, fun k _ hk => setRow_other w g k _ (fun e => hk (by simp [Value.ownBlock, e]))⟩⟩
      · simp only [List.size_toArray, List.length_append, List.length_take, List.length_drop, Array.length_toList, List.length_replicate]
        omega
      · rw [Nat.mul_one] at htake
        rw [htake, ← hlen]
        exact List.take_left
    · have holds : ∀ b, some (⟨g, 0, none⟩ : Addr) = some b → ∀ j u, xs[j]? = some u → w.cell? (b.add j) = some u := by
        intro b hb j u hu
        simp at hb
        subst hb
        exact hown.cells (g := g) rfl j u hu
      have hr := run_zeros_grow (P := P) w t ti ty e i z ht hti hi hz hzc hsize hby _ n cap (some ⟨g, 0, none⟩) rfl xs hxl holds (fun h => by cases h) m hm hm2 hn2 (by omega)
      have hgr := grown cap (by omega) (Value.ownBlock (.slice (some ⟨g, 0, none⟩) n cap))
      exact ⟨_, _, hr, hgr.1, hgr.2⟩
end

/-- The same as one step of a region that draws its order. -/
theorem step_zeros_own {P : Program} {ops : Array Oper} {o : Oper} {a : Act} {w : World} {K : Act → World → Prop} {Q : Exit → Act → World → Prop} {E : Prop}
    (hg : o.guard = none) (s x : Operand) (t ti : TypeId) (hop : o.op = Op.call { callee := Callee.builtin Builtin.append, args := #[s, x], argTypes := #[t, ti] })
    (base : Nat) (e : TypeId) (i : TypeInfo) (z : Value) (ht : P.underlying t = some (.slice e)) (hti : P.underlying ti = some (.int .i64)) (hi : P.info? e = some i) (hz : i.zero = some z) (hzc : z.cells = #[z]) (hz1 : z.oneCell' = true) (hsize : i.size = 1) (hby : i.bytes = 8)
    (v : Value) (n : Nat) (xs : List Value) (hs : a.eval s = v) (hown : w.ownsRow base e 1 v n xs) (hbase : base ≤ w.heap.size)
    (M : Int) (m : Nat) (hx : a.eval x = .int .i64 M) (hM : M = (m : Int)) (hm : 0 < m) (hm2 : m ≤ 4194304) (hn2 : n ≤ 4194304)
    (hK : ∀ v' w', w'.ownsRow base e 1 v' (n + m) (xs ++ List.replicate m z) → w.grownBy w' v.ownBlock → K (a.put o.dst v') w') :
    if Region.wanted o (yielded ops a.tmps) = true then Oper.wp P o a w K Q else E := by
  have hw : Region.wanted o (yielded ops a.tmps) = true := by simp [Region.wanted, hg]
  rw [if_pos hw]
  subst hM
  obtain ⟨v', w', hrun, r1, r2⟩ := run_zeros_own (P := P) w base t ti o.type e i z ht hti hi hz hzc hz1 hsize hby v n xs hown hbase m hm hm2 hn2
  unfold Oper.wp
  simp [execOp, hop, resolve, invoke, builtin, hs, hx, hrun, Result.andThen]
  exact hK v' w' r1 r2

end Go.Proofs.Qxb6603956a
