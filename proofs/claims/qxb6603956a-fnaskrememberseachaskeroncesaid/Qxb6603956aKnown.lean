/- tell, ask and ZZAsk where the decision is known. -/
import Derived.Test.Qxb6603956aZZ
import Derived.Deep.RegionHeld3
namespace Go.Proofs.Qxb6603956a
open Go.RowKit
set_option linter.unusedVariables false

def msgOf (id f dec : Int) : Array Value := #[.int .i64 id, .int .i64 f, .int .u8 2, .int .u8 0, .int .u8 dec, .int .i32 0, .int .i32 0, .int .i32 0, .int .i32 0]
def stepK (g : Nat) : Array Value := #[.slice (some ⟨g, 0, none⟩) 1 1, .int .u8 0, .pointer none, .bool false]

set_option maxRecDepth 100000 in
set_option maxHeartbeats 1000000 in
theorem tell_any (s : Nat) (id vote dec done idle f : Int) (va vw : Value) (w : World)
    (hs : w.heap[s]? = some (.cells (boxOf id vote dec va vw done idle) 83 (0, 0))) :
    Calls Try.prog 37 #[.pointer (some ⟨s, 0, none⟩), .int .i64 f] w fun e w' => e = .returned (.agg (msgOf id f dec)) ∧ w' = (w.alloc (.cells (msgOf id f dec) 61)).drew := by
  have hlt := lt_of_heap hs
  have s0 : w.cell? ⟨s, 0, none⟩ = some (.int .i64 id) := by simp [World.cell?, hs, boxOf]
  have s2 : w.cell? ⟨s, 2, none⟩ = some (.int .u8 dec) := by simp [World.cell?, hs, boxOf]
  clear hs
  go_enter Try.func37, Try.ntmps37
  go_wp2
  go_region
  all_goals go_wp2
  all_goals refine bodyPost_ret (v := .agg (msgOf id f dec)) (by simp [results, Try.results37, go_sem, msgOf]) rfl ⟨rfl, rfl⟩

theorem below_new {w w' : World} {B : Nat} (hB : B ≤ w.heap.size) {o : Obj} (h : Below B (w.alloc o) w') : Below B w w' := ((Below.refl B w).alloc hB o).trans h

set_option maxRecDepth 100000 in
set_option maxHeartbeats 1000000 in
theorem ask_known (s : Nat) (id vote dec done idle f : Int) (va vw : Value) (w : World) (hd : (dec != 0) = true)
    (hs : w.heap[s]? = some (.cells (boxOf id vote dec va vw done idle) 83 (0, 0))) :
    Calls Try.prog 33 #[.pointer (some ⟨s, 0, none⟩), .int .i64 f] w fun e w' => ∃ g, e = .returned (.agg (stepK g)) ∧ w.heap.size ≤ g ∧ w'.heap[g]? = some (.cells (msgOf id f dec) 61 (0, 0)) ∧ Below w.heap.size w w' := by
  have hlt := lt_of_heap hs
  have s2 : w.cell? ⟨s, 2, none⟩ = some (.int .u8 dec) := by simp [World.cell?, hs, boxOf]
  have hs' : (w.alloc (Obj.cells #[Value.slice none 0 0, Value.int IntKind.u8 0, Value.pointer none, Value.bool false] 54)).heap[s]? = some (.cells (boxOf id vote dec va vw done idle) 83 (0, 0)) := by
    rw [Below.heap_alloc _ _ _ hlt]; exact hs
  have HS := hideIt hs'
  clear hs hs'
  go_enter Try.func33, Try.ntmps33
  go_wp2_with fail
  refine (tell_any s id vote dec done idle f va vw _ HS.out).mono ?_
  rintro e w1 ⟨rfl, rfl⟩
  simp only [msgOf]
  go_wp2
  refine bodyPost_ret (v := .agg (stepK (w.heap.size + 1 + 1))) (by simp [results, Try.results33, go_sem, stepK]) rfl ⟨w.heap.size + 1 + 1, rfl, by omega, ?_, ?_⟩
  · have e : ((w.alloc (Obj.cells (stepK (w.heap.size + 1 + 1)) 54)).alloc (Obj.cells (msgOf id f dec) 61)).heap.size = w.heap.size + 1 + 1 := by simp
    have := heap_alloc_new ((w.alloc (Obj.cells (stepK (w.heap.size + 1 + 1)) 54)).alloc (Obj.cells (msgOf id f dec) 61)) (Obj.cells (msgOf id f dec) 61)
    rw [e] at this
    exact this
  · exact ((((Below.refl _ _).alloc (Nat.le_refl _) _).alloc (by simp) _).alloc (by simp; omega) _).drew

def boxA (id vote dec : Int) (va vw : Value) (done idle : Int) (w : World) : World := (w.alloc (Obj.cells #[Value.slice none 0 0, Value.int IntKind.u8 0, Value.pointer none, Value.bool false] 54)).alloc (Obj.cells #[Value.int IntKind.i64 id, Value.int IntKind.u8 vote, Value.int IntKind.u8 dec, va, vw, Value.int IntKind.i64 done, Value.int IntKind.i64 idle] 83)

theorem boxA_size (id vote dec : Int) (va vw : Value) (done idle : Int) (w : World) : (boxA id vote dec va vw done idle w).heap.size = w.heap.size + 2 := by simp [boxA]
theorem boxA_x (id vote dec : Int) (va vw : Value) (done idle : Int) (w : World) : (boxA id vote dec va vw done idle w).heap[w.heap.size]? = some (.cells step0 54 (0, 0)) := by
  unfold boxA; rw [Below.heap_alloc _ _ _ (by simp)]; exact heap_alloc_new w _
theorem boxA_s (id vote dec : Int) (va vw : Value) (done idle : Int) (w : World) : (boxA id vote dec va vw done idle w).heap[w.heap.size + 1]? = some (.cells (boxOf id vote dec va vw done idle) 83 (0, 0)) := by
  have := heap_alloc_new (w.alloc (Obj.cells #[Value.slice none 0 0, Value.int IntKind.u8 0, Value.pointer none, Value.bool false] 54)) (Obj.cells #[Value.int IntKind.i64 id, Value.int IntKind.u8 vote, Value.int IntKind.u8 dec, va, vw, Value.int IntKind.i64 done, Value.int IntKind.i64 idle] 83)
  rw [show (w.alloc (Obj.cells #[Value.slice none 0 0, Value.int IntKind.u8 0, Value.pointer none, Value.bool false] 54)).heap.size = w.heap.size + 1 by simp] at this
  exact this
theorem boxA_below (id vote dec : Int) (va vw : Value) (done idle : Int) (w : World) : Below w.heap.size w (boxA id vote dec va vw done idle w) :=
  ((Below.refl _ _).alloc (Nat.le_refl _) _).alloc (by simp) _

/-- What ZZAsk's results are read off, where the step holds a message. -/
theorem ends23k {x g : Nat} {wr : World} {tmps : Array Value} {v1 v2 v3 v4 v5 v6 v7 : Value} (hx : wr.heap[x]? = some (.cells (stepK g) 54 (0, 0))) (ht : tmps[16]? = some (.pointer (some ⟨x, 0, none⟩)))
    (h1 : tmps[17]? = some v1) (h2 : tmps[18]? = some v2) (h3 : tmps[19]? = some v3) (h4 : tmps[20]? = some v4) (h5 : tmps[21]? = some v5) (h6 : tmps[22]? = some v6) (h7 : tmps[23]? = some v7) :
    (results Try.f23 tmps).run Try.prog wr = .ok (.tuple #[.agg (stepK g), v1, v2, v3, v4, v5, v6, v7]) wr := by
  have q0 : wr.cell? ⟨x, 0, none⟩ = some (.slice (some ⟨g, 0, none⟩) 1 1) := by simp [World.cell?, hx, stepK]
  have q1 : wr.cell? ⟨x, 1, none⟩ = some (.int .u8 0) := by simp [World.cell?, hx, stepK]
  have q2 : wr.cell? ⟨x, 2, none⟩ = some (.pointer none) := by simp [World.cell?, hx, stepK]
  have q3 : wr.cell? ⟨x, 3, none⟩ = some (.bool false) := by simp [World.cell?, hx, stepK]
  simp [results, Try.results23, go_sem, ht, h1, h2, h3, h4, h5, h6, h7, q0, q1, q2, q3, stepK]

set_option maxRecDepth 100000 in
set_option maxHeartbeats 4000000 in
theorem zzask_known (id vote dec done idle f : Int) (aa aw : Option Addr) (la ca lw cw : Nat) (w : World) (hd : (dec != 0) = true) :
    Calls Try.prog 23 #[.int .i64 id, .int .u8 vote, .int .u8 dec, .slice aa la ca, .slice aw lw cw, .int .i64 done, .int .i64 idle, .int .i64 f] w fun e w' => ∃ g, e = .returned (.tuple #[.agg (stepK g), .int .i64 id, .int .u8 vote, .int .u8 dec, .slice aa la ca, .slice aw lw cw, .int .i64 done, .int .i64 idle]) ∧
      w'.heap[g]? = some (.cells (msgOf id f dec) 61 (0, 0)) ∧ Below w.heap.size w w' := by
  have HS := hideIt (boxA_s id vote dec (.slice aa la ca) (.slice aw lw cw) done idle w)
  have HX := hideIt (boxA_x id vote dec (.slice aa la ca) (.slice aw lw cw) done idle w)
  have HB := hideIt (boxA_below id vote dec (.slice aa la ca) (.slice aw lw cw) done idle w)
  have HZ := hideIt (boxA_size id vote dec (.slice aa la ca) (.slice aw lw cw) done idle w)
  go_enter Try.func23, Try.ntmps23
  go_wp2_with fail
  refine (ask_known (w.heap.size + 1) id vote dec done idle f _ _ _ hd HS.out).mono ?_
  rintro e w1 ⟨g, rfl, hg, hmsg, hb⟩
  have hb' : Below (w.heap.size + 2) (boxA id vote dec (.slice aa la ca) (.slice aw lw cw) done idle w) w1 := by
    have h := hb
    change Below (boxA id vote dec (.slice aa la ca) (.slice aw lw cw) done idle w).heap.size _ _ at h
    rw [HZ.out] at h
    exact h
  have hg' : w.heap.size + 2 ≤ g := by
    have h := hg
    change (boxA id vote dec (.slice aa la ca) (.slice aw lw cw) done idle w).heap.size ≤ g at h
    rw [HZ.out] at h
    exact h
  clear hb hg
  have hb1 : Below w.heap.size w w1 := HB.out.trans (hb'.mono (by omega))
  have hbox : w1.heap[w.heap.size + 1]? = some (.cells (boxOf id vote dec (.slice aa la ca) (.slice aw lw cw) done idle) 83 (0, 0)) := by rw [hb'.block _ (by omega)]; exact HS.out
  have hxb : w1.heap[w.heap.size]? = some (.cells step0 54 (0, 0)) := by rw [hb'.block _ (by omega)]; exact HX.out
  have hgl := lt_of_heap hmsg
  have hxl := lt_of_heap hbox
  clear HS HX HB HZ hb'
  simp only [stepK]
  go_wp2
  have hT : (w1.alloc (Obj.cells #[Value.slice (some ⟨g, 0, none⟩) 1 1, Value.int IntKind.u8 0, Value.pointer none, Value.bool false] 54)).heap[w1.heap.size]? = some (.cells (stepK g) 54 (0, 0)) := heap_alloc_new w1 _
  have hmsg2 : (w1.alloc (Obj.cells #[Value.slice (some ⟨g, 0, none⟩) 1 1, Value.int IntKind.u8 0, Value.pointer none, Value.bool false] 54)).heap[g]? = some (.cells (msgOf id f dec) 61 (0, 0)) := by rw [Below.heap_alloc _ _ _ hgl]; exact hmsg
  have hbox2 : (w1.alloc (Obj.cells #[Value.slice (some ⟨g, 0, none⟩) 1 1, Value.int IntKind.u8 0, Value.pointer none, Value.bool false] 54)).heap[w.heap.size + 1]? = some (.cells (boxOf id vote dec (.slice aa la ca) (.slice aw lw cw) done idle) 83 (0, 0)) := by rw [Below.heap_alloc _ _ _ hxl]; exact hbox
  have hxb2 : (w1.alloc (Obj.cells #[Value.slice (some ⟨g, 0, none⟩) 1 1, Value.int IntKind.u8 0, Value.pointer none, Value.bool false] 54)).heap[w.heap.size]? = some (.cells step0 54 (0, 0)) := by rw [Below.heap_alloc _ _ _ (by omega)]; exact hxb
  have hb2 : Below w.heap.size w (w1.alloc (Obj.cells #[Value.slice (some ⟨g, 0, none⟩) 1 1, Value.int IntKind.u8 0, Value.pointer none, Value.bool false] 54)) := hb1.alloc (by omega) _
  have hneq : w1.heap.size ≠ w.heap.size := by omega
  clear hmsg hbox hxb hb1
  generalize w1.alloc (Obj.cells #[Value.slice (some ⟨g, 0, none⟩) 1 1, Value.int IntKind.u8 0, Value.pointer none, Value.bool false] 54) = w2 at *
  generalize w1.heap.size = t at *
  have s0 : w2.cell? ⟨w.heap.size + 1, 0, none⟩ = some (.int .i64 id) := by simp [World.cell?, hbox2, boxOf]
  have s1 : w2.cell? ⟨w.heap.size + 1, 1, none⟩ = some (.int .u8 vote) := by simp [World.cell?, hbox2, boxOf]
  have s2 : w2.cell? ⟨w.heap.size + 1, 2, none⟩ = some (.int .u8 dec) := by simp [World.cell?, hbox2, boxOf]
  have s3 : w2.cell? ⟨w.heap.size + 1, 3, none⟩ = some (.slice aa la ca) := by simp [World.cell?, hbox2, boxOf]
  have s4 : w2.cell? ⟨w.heap.size + 1, 4, none⟩ = some (.slice aw lw cw) := by simp [World.cell?, hbox2, boxOf]
  have s5 : w2.cell? ⟨w.heap.size + 1, 5, none⟩ = some (.int .i64 done) := by simp [World.cell?, hbox2, boxOf]
  have s6 : w2.cell? ⟨w.heap.size + 1, 6, none⟩ = some (.int .i64 idle) := by simp [World.cell?, hbox2, boxOf]
  have t0 : w2.cell? ⟨t, 0, none⟩ = some (.slice (some ⟨g, 0, none⟩) 1 1) := by simp [World.cell?, hT, stepK]
  have t1 : w2.cell? ⟨t, 1, none⟩ = some (.int .u8 0) := by simp [World.cell?, hT, stepK]
  have t2 : w2.cell? ⟨t, 2, none⟩ = some (.pointer none) := by simp [World.cell?, hT, stepK]
  have t3 : w2.cell? ⟨t, 3, none⟩ = some (.bool false) := by simp [World.cell?, hT, stepK]
  have x0 : w2.cell? ⟨w.heap.size, 0, none⟩ = some (.slice none 0 0) := by simp [World.cell?, hxb2, step0]
  have x1 : w2.cell? ⟨w.heap.size, 1, none⟩ = some (.int .u8 0) := by simp [World.cell?, hxb2, step0]
  have x2 : w2.cell? ⟨w.heap.size, 2, none⟩ = some (.pointer none) := by simp [World.cell?, hxb2, step0]
  have x3 : w2.cell? ⟨w.heap.size, 3, none⟩ = some (.bool false) := by simp [World.cell?, hxb2, step0]
  have z0 : w2.frozen? ⟨w.heap.size, 0, none⟩ = false := by simp [World.frozen?, hxb2]
  have z1 : w2.frozen? ⟨w.heap.size, 1, none⟩ = false := by simp [World.frozen?, hxb2]
  have z2 : w2.frozen? ⟨w.heap.size, 2, none⟩ = false := by simp [World.frozen?, hxb2]
  have z3 : w2.frozen? ⟨w.heap.size, 3, none⟩ = false := by simp [World.frozen?, hxb2]
  have k0 : ((((w2.setCell ⟨w.heap.size, 0, none⟩ (.slice (some ⟨g, 0, none⟩) 1 1)).setCell ⟨w.heap.size, 1, none⟩ (.int .u8 0)).setCell ⟨w.heap.size, 2, none⟩ (.pointer none)).setCell ⟨w.heap.size, 3, none⟩ (.bool false)).cell? ⟨t, 0, none⟩ = some (.slice (some ⟨g, 0, none⟩) 1 1) := by rw [cell_setCell_other _ _ _ _ hneq, cell_setCell_other _ _ _ _ hneq, cell_setCell_other _ _ _ _ hneq, cell_setCell_other _ _ _ _ hneq]; exact t0
  have k1 : ((((w2.setCell ⟨w.heap.size, 0, none⟩ (.slice (some ⟨g, 0, none⟩) 1 1)).setCell ⟨w.heap.size, 1, none⟩ (.int .u8 0)).setCell ⟨w.heap.size, 2, none⟩ (.pointer none)).setCell ⟨w.heap.size, 3, none⟩ (.bool false)).cell? ⟨t, 1, none⟩ = some (.int .u8 0) := by rw [cell_setCell_other _ _ _ _ hneq, cell_setCell_other _ _ _ _ hneq, cell_setCell_other _ _ _ _ hneq, cell_setCell_other _ _ _ _ hneq]; exact t1
  have k2 : ((((w2.setCell ⟨w.heap.size, 0, none⟩ (.slice (some ⟨g, 0, none⟩) 1 1)).setCell ⟨w.heap.size, 1, none⟩ (.int .u8 0)).setCell ⟨w.heap.size, 2, none⟩ (.pointer none)).setCell ⟨w.heap.size, 3, none⟩ (.bool false)).cell? ⟨t, 2, none⟩ = some (.pointer none) := by rw [cell_setCell_other _ _ _ _ hneq, cell_setCell_other _ _ _ _ hneq, cell_setCell_other _ _ _ _ hneq, cell_setCell_other _ _ _ _ hneq]; exact t2
  have k3 : ((((w2.setCell ⟨w.heap.size, 0, none⟩ (.slice (some ⟨g, 0, none⟩) 1 1)).setCell ⟨w.heap.size, 1, none⟩ (.int .u8 0)).setCell ⟨w.heap.size, 2, none⟩ (.pointer none)).setCell ⟨w.heap.size, 3, none⟩ (.bool false)).cell? ⟨t, 3, none⟩ = some (.bool false) := by rw [cell_setCell_other _ _ _ _ hneq, cell_setCell_other _ _ _ _ hneq, cell_setCell_other _ _ _ _ hneq, cell_setCell_other _ _ _ _ hneq]; exact t3
  have HX := hideIt hxb2
  have HM := hideIt hmsg2
  have HT := hideIt hT
  clear hxb2 hmsg2 hT hbox2
  go_region_held3 (fun W => W.cell? ⟨w.heap.size + 1, 0, none⟩ = some (.int .i64 id) ∧ W.cell? ⟨w.heap.size + 1, 1, none⟩ = some (.int .u8 vote) ∧ W.cell? ⟨w.heap.size + 1, 2, none⟩ = some (.int .u8 dec) ∧ W.cell? ⟨w.heap.size + 1, 3, none⟩ = some (.slice aa la ca) ∧ W.cell? ⟨w.heap.size + 1, 4, none⟩ = some (.slice aw lw cw) ∧ W.cell? ⟨w.heap.size + 1, 5, none⟩ = some (.int .i64 done) ∧ W.cell? ⟨w.heap.size + 1, 6, none⟩ = some (.int .i64 idle) ∧ W.cell? ⟨t, 0, none⟩ = some (.slice (some ⟨g, 0, none⟩) 1 1) ∧ W.cell? ⟨t, 1, none⟩ = some (.int .u8 0) ∧ W.cell? ⟨t, 2, none⟩ = some (.pointer none) ∧ W.cell? ⟨t, 3, none⟩ = some (.bool false)) (go_keep) (fail)
  go_wp2
  have hX9 : ((((w2.setCell ⟨w.heap.size, 0, none⟩ (.slice (some ⟨g, 0, none⟩) 1 1)).setCell ⟨w.heap.size, 1, none⟩ (.int .u8 0)).setCell ⟨w.heap.size, 2, none⟩ (.pointer none)).setCell ⟨w.heap.size, 3, none⟩ (.bool false)).drew.heap[w.heap.size]? = some (.cells (stepK g) 54 (0, 0)) :=
    heap_setCell_at _ (heap_setCell_at _ (heap_setCell_at _ (heap_setCell_at _ HX.out)))
  have hM9 : ((((w2.setCell ⟨w.heap.size, 0, none⟩ (.slice (some ⟨g, 0, none⟩) 1 1)).setCell ⟨w.heap.size, 1, none⟩ (.int .u8 0)).setCell ⟨w.heap.size, 2, none⟩ (.pointer none)).setCell ⟨w.heap.size, 3, none⟩ (.bool false)).drew.heap[g]? = some (.cells (msgOf id f dec) 61 (0, 0)) := by
    have hgx : g ≠ w.heap.size := by omega
    show ((((w2.setCell ⟨w.heap.size, 0, none⟩ (.slice (some ⟨g, 0, none⟩) 1 1)).setCell ⟨w.heap.size, 1, none⟩ (.int .u8 0)).setCell ⟨w.heap.size, 2, none⟩ (.pointer none)).setCell ⟨w.heap.size, 3, none⟩ (.bool false)).heap[g]? = _
    rw [Below.heap_setCell _ _ _ _ hgx, Below.heap_setCell _ _ _ _ hgx, Below.heap_setCell _ _ _ _ hgx, Below.heap_setCell _ _ _ _ hgx]
    exact HM.out
  have hb9 : Below w.heap.size w ((((w2.setCell ⟨w.heap.size, 0, none⟩ (.slice (some ⟨g, 0, none⟩) 1 1)).setCell ⟨w.heap.size, 1, none⟩ (.int .u8 0)).setCell ⟨w.heap.size, 2, none⟩ (.pointer none)).setCell ⟨w.heap.size, 3, none⟩ (.bool false)).drew := ((((hb2.setCell (Nat.le_refl _) _).setCell (Nat.le_refl _) _).setCell (Nat.le_refl _) _).setCell (Nat.le_refl _) _).drew
  exact bodyPost_ret (v := .tuple #[.agg (stepK g), .int .i64 id, .int .u8 vote, .int .u8 dec, .slice aa la ca, .slice aw lw cw, .int .i64 done, .int .i64 idle]) (ends23k hX9 rfl rfl rfl rfl rfl rfl rfl rfl) rfl ⟨g, rfl, hM9, hb9⟩
end Go.Proofs.Qxb6603956a
