/- ZZAsk where the decision is not known. -/
import Derived.Test.Qxb6603956aAsk
import Derived.Deep.RegionHeld3
namespace Go.Proofs.Qxb6603956a
open Go.RowKit
set_option linter.unusedVariables false

section
variable {s r x : Nat} {id vote dec done idle : Int} {va vw : Value} {A M : List Int} {base : Nat} {w wr : World}
theorem St.setX (h : St s r x step0 id vote dec done idle va vw A M base w wr) (hbx : base ≤ x) (j : Nat) (u : Value) (hu : step0.setIfInBounds j u = step0) : St s r x step0 id vote dec done idle va vw A M base w (wr.setCell ⟨x, j, none⟩ u) := by
  refine ⟨?_, ?_, ?_, ?_, h.bel.setCell hbx _, h.hs, h.hr, ?_, h.nx⟩
  · rw [Below.heap_setCell _ _ _ _ h.ne_sx]; exact h.box
  · rw [Below.heap_setCell _ _ _ _ (fun e => h.nx e.symm)]; exact h.res
  · exact owns_of_block h.oa (fun g' e => Below.heap_setCell _ _ _ _ (fun e' => (h.am e).2.2.2 e'))
  · exact owns_of_block h.om (fun g' e => Below.heap_setCell _ _ _ _ (fun e' => (h.mm e).2.2.2 e'))
  · have := heap_setCell_at (j := j) u h.xb; rw [hu] at this; exact this
theorem St.setXs (h : St s r x step0 id vote dec done idle va vw A M base w wr) (hbx : base ≤ x) : St s r x step0 id vote dec done idle va vw A M base w ((((wr.setCell ⟨x, 0, none⟩ (.slice none 0 0)).setCell ⟨x, 1, none⟩ (.int .u8 0)).setCell ⟨x, 2, none⟩ (.pointer none)).setCell ⟨x, 3, none⟩ (.bool false)) :=
  (((h.setX hbx 0 _ rfl).setX hbx 1 _ rfl).setX hbx 2 _ rfl).setX hbx 3 _ rfl
theorem St.ends23 {tmps : Array Value} {v1 v2 v3 v4 v5 v6 v7 : Value} (h : St s r x step0 id vote dec done idle va vw A M base w wr) (ht : tmps[16]? = some (.pointer (some ⟨x, 0, none⟩)))
    (h1 : tmps[17]? = some v1) (h2 : tmps[18]? = some v2) (h3 : tmps[19]? = some v3) (h4 : tmps[20]? = some v4) (h5 : tmps[21]? = some v5) (h6 : tmps[22]? = some v6) (h7 : tmps[23]? = some v7) :
    (results Try.f23 tmps).run Try.prog wr = .ok (.tuple #[.agg step0, v1, v2, v3, v4, v5, v6, v7]) wr := by
  have q0 : wr.cell? ⟨x, 0, none⟩ = some (.slice none 0 0) := by simp [World.cell?, h.xb, step0]
  have q1 : wr.cell? ⟨x, 1, none⟩ = some (.int .u8 0) := by simp [World.cell?, h.xb, step0]
  have q2 : wr.cell? ⟨x, 2, none⟩ = some (.pointer none) := by simp [World.cell?, h.xb, step0]
  have q3 : wr.cell? ⟨x, 3, none⟩ = some (.bool false) := by simp [World.cell?, h.xb, step0]
  simp [results, Try.results23, go_sem, ht, h1, h2, h3, h4, h5, h6, h7, q0, q1, q2, q3, step0]
end

theorem cell_setCell_other (w : World) (a : Addr) (u : Value) (p : Addr) (h : p.block ≠ a.block) : (w.setCell a u).cell? p = w.cell? p := World.cell?_of_block (Below.heap_setCell _ _ _ _ h)

theorem hideIt {p : Prop} (h : p) : Hid p := h

set_option maxRecDepth 100000 in
set_option maxHeartbeats 4000000 in
theorem zzask_any (id vote done idle f : Int) (va vw : Value) (A M : List Int) (base : Nat) (w : World)
    (ha : w.ownsRow base 3 1 va A.length (A.map (Value.int .i64))) (hm : w.ownsRow base 77 1 vw M.length (M.map (Value.int .u64)))
    (hbase : base ≤ w.heap.size) (hf0 : 0 ≤ f) (hf1 : f ≤ 1048576) (hA : A.length ≤ 1048576) (hM : M.length ≤ 1048576) :
    Calls Try.prog 23 #[.int .i64 id, .int .u8 vote, .int .u8 0, va, vw, .int .i64 done, .int .i64 idle, .int .i64 f] w fun e w' => ∃ va' vw', e = .returned (.tuple #[.agg step0, .int .i64 id, .int .u8 vote, .int .u8 0, va', vw', .int .i64 done, .int .i64 idle]) ∧
      w'.ownsRow base 3 1 va' (askA A M f).length ((askA A M f).map (Value.int .i64)) ∧ w'.ownsRow base 77 1 vw' (askM M f).length ((askM M f).map (Value.int .u64)) ∧ Below base w w' := by
  obtain ⟨aa, ca, hva, -⟩ := Slc.own ha
  obtain ⟨aw, cw, hvw, -⟩ := Slc.own hm
  subst hva hvw
  have hx : ((w.alloc (Obj.cells #[Value.slice none 0 0, Value.int IntKind.u8 0, Value.pointer none, Value.bool false] 54)).alloc (Obj.cells #[Value.int IntKind.i64 id, Value.int IntKind.u8 vote, Value.int IntKind.u8 0, Value.slice aa A.length ca, Value.slice aw M.length cw, Value.int IntKind.i64 done, Value.int IntKind.i64 idle] 83)).heap[w.heap.size]? = some (.cells step0 54 (0, 0)) := by
    rw [Below.heap_alloc _ _ _ (by simp)]; exact heap_alloc_new w _
  have hs : ((w.alloc (Obj.cells #[Value.slice none 0 0, Value.int IntKind.u8 0, Value.pointer none, Value.bool false] 54)).alloc (Obj.cells #[Value.int IntKind.i64 id, Value.int IntKind.u8 vote, Value.int IntKind.u8 0, Value.slice aa A.length ca, Value.slice aw M.length cw, Value.int IntKind.i64 done, Value.int IntKind.i64 idle] 83)).heap[w.heap.size + 1]? = some (.cells (boxOf id vote 0 (.slice aa A.length ca) (.slice aw M.length cw) done idle) 83 (0, 0)) := by
    have := heap_alloc_new (w.alloc (Obj.cells #[Value.slice none 0 0, Value.int IntKind.u8 0, Value.pointer none, Value.bool false] 54)) (Obj.cells #[Value.int IntKind.i64 id, Value.int IntKind.u8 vote, Value.int IntKind.u8 0, Value.slice aa A.length ca, Value.slice aw M.length cw, Value.int IntKind.i64 done, Value.int IntKind.i64 idle] 83)
    have e : (w.alloc (Obj.cells #[Value.slice none 0 0, Value.int IntKind.u8 0, Value.pointer none, Value.bool false] 54)).heap.size = w.heap.size + 1 := by simp
    rw [e] at this
    exact this
  have hb0 : Below base w ((w.alloc (Obj.cells #[Value.slice none 0 0, Value.int IntKind.u8 0, Value.pointer none, Value.bool false] 54)).alloc (Obj.cells #[Value.int IntKind.i64 id, Value.int IntKind.u8 vote, Value.int IntKind.u8 0, Value.slice aa A.length ca, Value.slice aw M.length cw, Value.int IntKind.i64 done, Value.int IntKind.i64 idle] 83)) := ((Below.refl _ _).alloc hbase _).alloc (by simp; omega) _
  have ha2 := (ha.alloc (Obj.cells #[Value.slice none 0 0, Value.int IntKind.u8 0, Value.pointer none, Value.bool false] 54)).alloc (Obj.cells #[Value.int IntKind.i64 id, Value.int IntKind.u8 vote, Value.int IntKind.u8 0, Value.slice aa A.length ca, Value.slice aw M.length cw, Value.int IntKind.i64 done, Value.int IntKind.i64 idle] 83)
  have hm2 := (hm.alloc (Obj.cells #[Value.slice none 0 0, Value.int IntKind.u8 0, Value.pointer none, Value.bool false] 54)).alloc (Obj.cells #[Value.int IntKind.i64 id, Value.int IntKind.u8 vote, Value.int IntKind.u8 0, Value.slice aa A.length ca, Value.slice aw M.length cw, Value.int IntKind.i64 done, Value.int IntKind.i64 idle] 83)
  have HS := hideIt hs
  have HX := hideIt hx
  have HA := hideIt ha2
  have HM := hideIt hm2
  have HB := hideIt hb0
  clear hs hx ha2 hm2 hb0 ha hm
  obtain ⟨A', hA'⟩ : ∃ x, x = askA A M f := ⟨_, rfl⟩
  obtain ⟨M', hM'⟩ : ∃ x, x = askM M f := ⟨_, rfl⟩
  rw [← hA', ← hM']
  have HA' := hideIt hA'
  have HM' := hideIt hM'
  clear hA' hM'
  go_enter Try.func23, Try.ntmps23
  go_wp2_with fail
  refine (ask_any (w.heap.size + 1) w.heap.size step0 id vote done idle f _ _ A M base _ HS.out HA.out HM.out HX.out (by omega) hf0 hf1 hA hM).mono ?_
  rintro e w1 ⟨va', vw', rfl, S⟩
  have hb1 : Below base w w1 := HB.out.trans S.bel
  rw [← HA'.out, ← HM'.out] at S
  clear HA' HM' HS HX HA HM HB hA hM
  obtain ⟨aa', ca', hva, -⟩ := Slc.own S.oa
  obtain ⟨aw', cw', hvw, -⟩ := Slc.own S.om
  subst hva hvw
  have T := S.alloc (Obj.cells #[Value.slice none 0 0, Value.int IntKind.u8 0, Value.pointer none, Value.bool false] 54)
  have hst : (w1.alloc (Obj.cells #[Value.slice none 0 0, Value.int IntKind.u8 0, Value.pointer none, Value.bool false] 54)).heap[w1.heap.size]? = some (.cells step0 54 (0, 0)) := heap_alloc_new w1 _
  simp only [step0]
  go_wp2
  have hneq : w1.heap.size ≠ w.heap.size := by have := S.ltx; omega
  have hb2 : Below base w (w1.alloc (Obj.cells #[Value.slice none 0 0, Value.int IntKind.u8 0, Value.pointer none, Value.bool false] 54)) := hb1.alloc (by have := hb1.size; omega) _
  generalize w1.alloc (Obj.cells #[Value.slice none 0 0, Value.int IntKind.u8 0, Value.pointer none, Value.bool false] 54) = w2 at *
  generalize w1.heap.size = t at *
  clear S hb1
  have s0 : w2.cell? ⟨w.heap.size + 1, 0, none⟩ = some (.int .i64 id) := by simp [World.cell?, T.box, boxOf]
  have s1 : w2.cell? ⟨w.heap.size + 1, 1, none⟩ = some (.int .u8 vote) := by simp [World.cell?, T.box, boxOf]
  have s2 : w2.cell? ⟨w.heap.size + 1, 2, none⟩ = some (.int .u8 0) := by simp [World.cell?, T.box, boxOf]
  have s3 : w2.cell? ⟨w.heap.size + 1, 3, none⟩ = some (.slice aa' A'.length ca') := by simp [World.cell?, T.box, boxOf]
  have s4 : w2.cell? ⟨w.heap.size + 1, 4, none⟩ = some (.slice aw' M'.length cw') := by simp [World.cell?, T.box, boxOf]
  have s5 : w2.cell? ⟨w.heap.size + 1, 5, none⟩ = some (.int .i64 done) := by simp [World.cell?, T.box, boxOf]
  have s6 : w2.cell? ⟨w.heap.size + 1, 6, none⟩ = some (.int .i64 idle) := by simp [World.cell?, T.box, boxOf]
  have t0 : w2.cell? ⟨t, 0, none⟩ = some (.slice none 0 0) := by simp [World.cell?, hst, step0]
  have t1 : w2.cell? ⟨t, 1, none⟩ = some (.int .u8 0) := by simp [World.cell?, hst, step0]
  have t2 : w2.cell? ⟨t, 2, none⟩ = some (.pointer none) := by simp [World.cell?, hst, step0]
  have t3 : w2.cell? ⟨t, 3, none⟩ = some (.bool false) := by simp [World.cell?, hst, step0]
  have x0 : w2.cell? ⟨w.heap.size, 0, none⟩ = some (.slice none 0 0) := by simp [World.cell?, T.xb, step0]
  have x1 : w2.cell? ⟨w.heap.size, 1, none⟩ = some (.int .u8 0) := by simp [World.cell?, T.xb, step0]
  have x2 : w2.cell? ⟨w.heap.size, 2, none⟩ = some (.pointer none) := by simp [World.cell?, T.xb, step0]
  have x3 : w2.cell? ⟨w.heap.size, 3, none⟩ = some (.bool false) := by simp [World.cell?, T.xb, step0]
  have z0 : w2.frozen? ⟨w.heap.size, 0, none⟩ = false := by simp [World.frozen?, T.xb]
  have z1 : w2.frozen? ⟨w.heap.size, 1, none⟩ = false := by simp [World.frozen?, T.xb]
  have z2 : w2.frozen? ⟨w.heap.size, 2, none⟩ = false := by simp [World.frozen?, T.xb]
  have z3 : w2.frozen? ⟨w.heap.size, 3, none⟩ = false := by simp [World.frozen?, T.xb]
  have k0 : ((((w2.setCell ⟨w.heap.size, 0, none⟩ (.slice none 0 0)).setCell ⟨w.heap.size, 1, none⟩ (.int .u8 0)).setCell ⟨w.heap.size, 2, none⟩ (.pointer none)).setCell ⟨w.heap.size, 3, none⟩ (.bool false)).cell? ⟨t, 0, none⟩ = some (.slice none 0 0) := by rw [cell_setCell_other _ _ _ _ hneq, cell_setCell_other _ _ _ _ hneq, cell_setCell_other _ _ _ _ hneq, cell_setCell_other _ _ _ _ hneq]; exact t0
  have k1 : ((((w2.setCell ⟨w.heap.size, 0, none⟩ (.slice none 0 0)).setCell ⟨w.heap.size, 1, none⟩ (.int .u8 0)).setCell ⟨w.heap.size, 2, none⟩ (.pointer none)).setCell ⟨w.heap.size, 3, none⟩ (.bool false)).cell? ⟨t, 1, none⟩ = some (.int .u8 0) := by rw [cell_setCell_other _ _ _ _ hneq, cell_setCell_other _ _ _ _ hneq, cell_setCell_other _ _ _ _ hneq, cell_setCell_other _ _ _ _ hneq]; exact t1
  have k2 : ((((w2.setCell ⟨w.heap.size, 0, none⟩ (.slice none 0 0)).setCell ⟨w.heap.size, 1, none⟩ (.int .u8 0)).setCell ⟨w.heap.size, 2, none⟩ (.pointer none)).setCell ⟨w.heap.size, 3, none⟩ (.bool false)).cell? ⟨t, 2, none⟩ = some (.pointer none) := by rw [cell_setCell_other _ _ _ _ hneq, cell_setCell_other _ _ _ _ hneq, cell_setCell_other _ _ _ _ hneq, cell_setCell_other _ _ _ _ hneq]; exact t2
  have k3 : ((((w2.setCell ⟨w.heap.size, 0, none⟩ (.slice none 0 0)).setCell ⟨w.heap.size, 1, none⟩ (.int .u8 0)).setCell ⟨w.heap.size, 2, none⟩ (.pointer none)).setCell ⟨w.heap.size, 3, none⟩ (.bool false)).cell? ⟨t, 3, none⟩ = some (.bool false) := by rw [cell_setCell_other _ _ _ _ hneq, cell_setCell_other _ _ _ _ hneq, cell_setCell_other _ _ _ _ hneq, cell_setCell_other _ _ _ _ hneq]; exact t3
  have HT := hideIt T
  have Hst := hideIt hst
  clear T hst
  go_region_held3 (fun W => W.cell? ⟨w.heap.size + 1, 0, none⟩ = some (.int .i64 id) ∧ W.cell? ⟨w.heap.size + 1, 1, none⟩ = some (.int .u8 vote) ∧ W.cell? ⟨w.heap.size + 1, 2, none⟩ = some (.int .u8 0) ∧ W.cell? ⟨w.heap.size + 1, 3, none⟩ = some (.slice aa' A'.length ca') ∧ W.cell? ⟨w.heap.size + 1, 4, none⟩ = some (.slice aw' M'.length cw') ∧ W.cell? ⟨w.heap.size + 1, 5, none⟩ = some (.int .i64 done) ∧ W.cell? ⟨w.heap.size + 1, 6, none⟩ = some (.int .i64 idle) ∧ W.cell? ⟨t, 0, none⟩ = some (.slice none 0 0) ∧ W.cell? ⟨t, 1, none⟩ = some (.int .u8 0) ∧ W.cell? ⟨t, 2, none⟩ = some (.pointer none) ∧ W.cell? ⟨t, 3, none⟩ = some (.bool false)) (go_keep) (fail)
  go_wp2
  have S9 := (HT.out.setXs hbase).drew
  have hb9 : Below base w ((((w2.setCell ⟨w.heap.size, 0, none⟩ (.slice none 0 0)).setCell ⟨w.heap.size, 1, none⟩ (.int .u8 0)).setCell ⟨w.heap.size, 2, none⟩ (.pointer none)).setCell ⟨w.heap.size, 3, none⟩ (.bool false)).drew := ((((hb2.setCell hbase _).setCell hbase _).setCell hbase _).setCell hbase _).drew
  exact bodyPost_ret (v := .tuple #[.agg step0, .int .i64 id, .int .u8 vote, .int .u8 0, .slice aa' A'.length ca', .slice aw' M'.length cw', .int .i64 done, .int .i64 idle]) (St.ends23 S9 rfl rfl rfl rfl rfl rfl rfl rfl) rfl ⟨.slice aa' A'.length ca', .slice aw' M'.length cw', rfl, S9.oa, S9.om, hb9⟩
end Go.Proofs.Qxb6603956a
