/- The bounds on lengths, the copy, the small tests of one byte. -/
import Derived.Test.Qxb6604001aProg
import Derived.WalkKit
import Derived.WalkSpells
import Derived.WalkLawsBesides
import Derived.Laws.CopyOwn
namespace Go.Proofs.Qxb6604001a
open Go.RowKit
set_option linter.unusedVariables false

theorem hideIt {p : Prop} (h : p) : Hid p := h
theorem ret_int {k : IntKind} {a b : Int} (h : a = b) : Ending.returned (.int k a) = .returned (.int k b) := by rw [h]
theorem ret_bool {a b : Bool} (h : a = b) : Ending.returned (.bool a) = .returned (.bool b) := by rw [h]
theorem lt_of_heap {w : World} {g : Nat} {x : Obj} (h : w.heap[g]? = some x) : g < w.heap.size := (Array.getElem?_eq_some_iff.1 h).1

/-- The slice value v reads as the numbers zs in the world w. -/
def Slc (K : IntKind) (w : World) (v : Value) (zs : List Int) : Prop :=
  ∃ a cap, v = .slice a zs.length cap ∧ ∀ i, i < zs.length → ∃ b o, a = some ⟨b, o, none⟩ ∧ w.cell? ⟨b, o + i, none⟩ = some (.int K (zs.getD i 0)) ∧ b < w.heap.size

theorem slc_of_row' {K : IntKind} {w : World} {a : Option Addr} {len cap : Nat} {zs : List Int}
    (h : (a = none ∧ len = 0 ∧ cap = 0 ∧ zs = []) ∨ ∃ x, a = some x ∧ len ≤ cap ∧ cap ≤ maxLen ∧ zs.length = cap ∧ (∀ i, i < zs.length → w.cell? (x.add i) = some (.int K (zs.getD i 0))) ∧ ∀ n ∈ zs, (Lit.int K n).wf = true) :
    len ≤ maxLen ∧ (zs.take len).length = len ∧ Slc K w (.slice a len cap) (zs.take len) ∧ ∀ n ∈ zs.take len, (Lit.int K n).wf = true := by
  rcases h with ⟨rfl, rfl, rfl, rfl⟩ | ⟨x, rfl, hlc, hcm, hz, hcell, hwf⟩
  · exact ⟨by decide, rfl, ⟨none, 0, rfl, fun i hi => by simp at hi⟩, fun n hn => by simp at hn⟩
  · have hl : (zs.take len).length = len := by rw [List.length_take]; omega
    refine ⟨by omega, hl, ⟨some x, cap, by rw [hl], fun i hi => ?_⟩, fun n hn => hwf n (List.mem_of_mem_take hn)⟩
    rw [hl] at hi
    have hc := hcell i (by omega)
    obtain ⟨b, o, spot⟩ := x
    have hspot : spot = none := by simpa [Addr.add] using World.cell?_spot (hcell 0 (by omega))
    subst hspot
    have ha : (⟨b, o, none⟩ : Addr).add i = ⟨b, o + i, none⟩ := by unfold Addr.add; split <;> simp_all
    rw [ha] at hc
    refine ⟨b, o, rfl, ?_, World.block_lt_of_cell? w _ hc⟩
    rw [hc]
    simp [hi]

/-- Block g holds the bytes zs. -/
def Cells (w : World) (g : Nat) (zs : List Int) : Prop :=
  (∀ i, i < zs.length → w.cell? ⟨g, i, none⟩ = some (.int .u8 (zs.getD i 0))) ∧ g < w.heap.size

theorem Cells.below {w w' : World} {g : Nat} {zs : List Int} (h : Cells w g zs) (hb : Below w.heap.size w w') : Cells w' g zs :=
  ⟨fun i hi => (hb.cell (p := ⟨g, i, none⟩) h.2).trans (h.1 i hi), Nat.lt_of_lt_of_le h.2 hb.size⟩

def Bts (zs : List Int) : Prop := ∀ i, 0 ≤ zs.getD i 0 ∧ zs.getD i 0 ≤ 255
theorem bts_of_all {zs : List Int} (h : ∀ n ∈ zs, 0 ≤ n ∧ n ≤ 255) : Bts zs := by
  intro i
  by_cases hi : i < zs.length
  · exact h (zs.getD i 0) (by simp [List.getD, List.getElem?_eq_getElem hi])
  · simp [List.getD, List.getElem?_eq_none (by omega : zs.length ≤ i)]

theorem Try.info5 : (Try.prog.info? 5).map (fun i => (i.zero, i.size, i.bytes)) = some (some (.int .u8 0), 1, 1) := by kernel_rfl

set_option maxHeartbeats 400000 in
theorem bytes7 (a : Option Addr) (len cap : Nat) (p : Int) (w : World) (h : len ≤ maxLen) :
    Calls Try.prog 7 #[.slice a len cap, .int .i64 p] w fun e w' => e = .returned (.bool (decide (len ≤ 1048576))) ∧ w' = w := by
  unfold maxLen at h
  by_cases hl : len ≤ 1048576
  · go_enter Try.func7, Try.ntmps7
    go_wp2
    go_ret
    exact ⟨by simp [hl], rfl⟩
  · go_enter Try.func7, Try.ntmps7
    go_wp2
    go_ret
    exact ⟨by simp [hl], rfl⟩
set_option maxHeartbeats 400000 in
theorem bytes11 (a : Option Addr) (len cap : Nat) (p : Int) (w : World) (h : len ≤ maxLen) :
    Calls Try.prog 11 #[.slice a len cap, .int .i64 p] w fun e w' => e = .returned (.bool (decide (len ≤ 1048576))) ∧ w' = w := by
  unfold maxLen at h
  by_cases hl : len ≤ 1048576
  · go_enter Try.func11, Try.ntmps11
    go_wp2
    go_ret
    exact ⟨by simp [hl], rfl⟩
  · go_enter Try.func11, Try.ntmps11
    go_wp2
    go_ret
    exact ⟨by simp [hl], rfl⟩
set_option maxHeartbeats 400000 in
theorem bytes14 (a : Option Addr) (len cap : Nat) (p : Int) (w : World) (h : len ≤ maxLen) :
    Calls Try.prog 14 #[.slice a len cap, .int .i64 p] w fun e w' => e = .returned (.bool (decide (len ≤ 1048576))) ∧ w' = w := by
  unfold maxLen at h
  by_cases hl : len ≤ 1048576
  · go_enter Try.func14, Try.ntmps14
    go_wp2
    go_ret
    exact ⟨by simp [hl], rfl⟩
  · go_enter Try.func14, Try.ntmps14
    go_wp2
    go_ret
    exact ⟨by simp [hl], rfl⟩

/-! ### The copy -/
set_option maxHeartbeats 400000 in
theorem clone_nil (cap : Nat) (w : World) :
    Calls Try.prog 8 #[.slice none 0 cap] w fun e w' => e = .returned (.slice none 0 0) ∧ w' = w := by
  have q : ∀ (w : World) (a : Option Addr) (n c n' c' : Nat), (binOp .eql 22 (.slice a n c) (.slice none n' c')).run Try.prog w = .ok (.bool a.isNone) w := fun w a n c n' c' => Lib.run_eql_slice_nil w _ _ a n c n' c' Try.underlying22
  go_enter Try.func8, Try.ntmps8
  go_wp2
  go_ret
  exact ⟨rfl, rfl⟩

set_option maxRecDepth 100000 in
set_option maxHeartbeats 1000000 in
theorem clone_some (x : Addr) (cap : Nat) (zs : List Int) (w : World) (hl : zs.length ≤ 1048576)
   (hc : ∀ i, i < zs.length → ∃ b o, x = ⟨b, o, none⟩ ∧ w.cell? ⟨b, o + i, none⟩ = some (.int .u8 (zs.getD i 0)) ∧ b < w.heap.size) :
    Calls Try.prog 8 #[.slice (some x) zs.length cap] w fun e w' => e = .returned (.slice (some ⟨w.heap.size, 0, none⟩) zs.length zs.length) ∧ Cells w' w.heap.size zs ∧ Below w.heap.size w w' := by
  have q : ∀ (w : World) (a : Option Addr) (n c n' c' : Nat), (binOp .eql 22 (.slice a n c) (.slice none n' c')).run Try.prog w = .ok (.bool a.isNone) w := fun w a n c n' c' => Lib.run_eql_slice_nil w _ _ a n c n' c' Try.underlying22
  obtain ⟨i0, hi, hz0, hz1, hz2⟩ := info_parts Try.info5
  obtain ⟨cs, hcs⟩ : ∃ cs, cs = zs.map (Value.int .u8) := ⟨_, rfl⟩
  have HC := hideIt hcs
  have HL : cs.length = zs.length := by simp [hcs]
  have hc' : ∀ (j : Nat) v, cs[j]? = some v → w.cell? (x.add j) = some v := by
    intro j v hv
    have hj : j < zs.length := by rw [← HL]; exact (List.getElem?_eq_some_iff.1 hv).1
    obtain ⟨b, o, rfl, hcell, _⟩ := hc j hj
    have ha : (⟨b, o, none⟩ : Addr).add j = ⟨b, o + j, none⟩ := by unfold Addr.add; split <;> simp_all
    rw [ha, hcell, ← hv, hcs]
    simp [List.getElem?_eq_getElem hj]
  have hx : ∀ (j : Nat) v, cs[j]? = some v → x.block < w.heap.size := by
    intro j v hv
    have hj : j < zs.length := by rw [← HL]; exact (List.getElem?_eq_some_iff.1 hv).1
    obtain ⟨b, o, rfl, hcell, hb⟩ := hc j hj
    exact hb
  have h1 : ∀ v ∈ cs, v.oneCell' = true := by
    rw [hcs]; intro v hv; obtain ⟨z, _, rfl⟩ := List.mem_map.1 hv; rfl
  have HLh := hideIt HL
  have H1 := hideIt h1
  have HC' := hideIt hc'
  have HX := hideIt hx
  have hsz : (Try.prog.info? 5).map (·.size) = some 1 := by rw [hi]; simp [hz1]
  have HSZ := hideIt hsz
  clear hcs HL hc h1 hc' hx hsz
  obtain ⟨len, hlen⟩ : ∃ n, n = zs.length := ⟨_, rfl⟩
  rw [← hlen] at hl HLh ⊢
  have HLEN := hideIt hlen
  clear hlen
  go_enter Try.func8, Try.ntmps8
  go_wp2_with (at_make; refine wpList_make_full _ rfl _ _ 22 rfl w.heap.size 5 i0 (.int .u8 0) 1 Try.underlying22 hi hz0 hz1 _ _ _ _ len rfl rfl rfl rfl ?b2 ?b3 ?b4 ?_)
  case b2 => rw [hz2]; omega
  case b3 => unfold maxLen; omega
  case b4 => omega
  intro w1 hown hgr
  have hb1 : Below w.heap.size w w1 := (Below.refl _ _).grown hgr (Nat.le_refl _) (by simp)
  rw [toList_madeCells_one] at hown
  obtain ⟨g, cap', cur, hval, hbg, hg, hnc, hcm, hcs, htake⟩ := (hown.2).resolve_left (by simp)
  have hval' : w.heap.size = g ∧ len = cap' := by simpa using hval
  obtain ⟨rfl, rfl⟩ := hval'
  have hcur : cur = (List.replicate len (Value.int .u8 0)).toArray := by
    have : cur.toList = List.replicate len (Value.int .u8 0) := by
      rw [← htake, List.take_of_length_le (by simp; omega)]
    rw [← this]
  subst hcur
  have HG := hideIt hg
  clear hval hown hgr q hi hz0 hz1 hz2 htake hcs hnc hcm hbg hg
  go_wp2_with (refine wpList_copy_splice rfl _ _ 22 22 rfl 5 Try.underlying22 HSZ.out _ _ _ _ _ _ rfl rfl w.heap.size 0 (List.replicate len (Value.int .u8 0)) 5 HG.out cs ?c1 ?c2 ?c3 H1.out w.heap.size w hb1 (Nat.le_refl _) ?_)
  case c1 => rw [HLh.out]; simp
  case c2 =>
    intro _ j v hv
    refine (hb1.cell (p := x.add j) ?_).trans (HC'.out j v hv)
    have e : (x.add j).block = x.block := by unfold Addr.add; split <;> rfl
    rw [e]; exact HX.out j v hv
  case c3 => rw [HLh.out]; simp
  intro w2 HG2 hb2
  go_wp2
  go_ret
  refine ⟨rfl, ?_, hb2⟩
  have h2 := HG2.out
  have e2 : splice (List.replicate len (Value.int .u8 0)) 0 cs = cs := by
    simp [splice, HLh.out]
  rw [e2] at h2
  refine ⟨fun i hi => ?_, lt_of_heap h2⟩
  simp [World.cell?, h2, HC.out, List.getElem?_eq_getElem hi]

theorem clone_any (v : Value) (zs : List Int) (w : World) (hl : zs.length ≤ 1048576) (h : Slc .u8 w v zs) :
    Calls Try.prog 8 #[v] w fun e w' => ∃ a, e = .returned (.slice a zs.length zs.length) ∧ (0 < zs.length → ∃ g, a = some ⟨g, 0, none⟩ ∧ Cells w' g zs) ∧ Below w.heap.size w w' := by
  obtain ⟨a, cap, rfl, hc⟩ := h
  cases a with
  | none =>
    have h0 : zs = [] := by
      cases zs with
      | nil => rfl
      | cons z zs => obtain ⟨b, o, h, _⟩ := hc 0 (by simp); cases h
    subst h0
    refine (clone_nil cap w).mono ?_
    rintro e w' ⟨rfl, rfl⟩
    exact ⟨_, rfl, fun h => by simp at h, Below.refl _ _⟩
  | some x =>
    refine (clone_some x cap zs w hl ?_).mono ?_
    · intro i hi
      obtain ⟨b, o, hx, hcell, hbb⟩ := hc i hi
      exact ⟨b, o, by simpa using hx, hcell, hbb⟩
    · rintro e w' ⟨rfl, hcs, hb⟩
      exact ⟨_, rfl, fun _ => ⟨_, rfl, hcs⟩, hb⟩

/-! ### The tests of one byte -/
def isWs (c : Int) : Bool := c == 32 || c == 9 || c == 10 || c == 13
def isSep (c : Int) : Bool := isWs c || c == 44 || c == 58
def isDig (c : Int) : Bool := decide (48 ≤ c ∧ c ≤ 57)
def isHex (c : Int) : Bool := isDig c || decide (97 ≤ c ∧ c ≤ 102) || decide (65 ≤ c ∧ c ≤ 70)
def endsLit (c : Int) : Bool := isSep c || c == 93 || c == 125

set_option maxHeartbeats 1000000 in
theorem isWs29 (c : Int) (w : World) : Calls Try.prog 29 #[.int .u8 c] w fun e w' => e = .returned (.bool (isWs c)) ∧ w' = w := by
  go_enter Try.func29, Try.ntmps29
  go_wp2
  all_goals (go_ret; exact ⟨by simp_all [isWs], rfl⟩)
set_option maxHeartbeats 1000000 in
theorem isSep10 (c : Int) (w : World) : Calls Try.prog 10 #[.int .u8 c] w fun e w' => e = .returned (.bool (isSep c)) ∧ w' = w := by
  go_enter Try.func10, Try.ntmps10
  go_wp2
  all_goals (go_ret; exact ⟨by simp_all [isSep, isWs], rfl⟩)
set_option maxHeartbeats 1000000 in
theorem isDig27 (c : Int) (w : World) : Calls Try.prog 27 #[.int .u8 c] w fun e w' => e = .returned (.bool (isDig c)) ∧ w' = w := by
  go_enter Try.func27, Try.ntmps27
  go_wp2
  all_goals (go_ret; exact ⟨ret_bool (by simp_all [isDig] <;> omega), rfl⟩)
set_option maxHeartbeats 1000000 in
theorem isHex31 (c : Int) (w : World) : Calls Try.prog 31 #[.int .u8 c] w fun e w' => e = .returned (.bool (isHex c)) ∧ w' = w := by
  cases hd : isDig c
  · go_enter Try.func31, Try.ntmps31
    go_wp2_with fail
    refine (isDig27 c w).mono ?_
    rintro e w' ⟨rfl, rfl⟩
    rw [hd]
    go_wp2
    all_goals (go_ret; exact ⟨ret_bool (by simp_all [isHex] <;> omega), rfl⟩)
  · go_enter Try.func31, Try.ntmps31
    go_wp2_with fail
    refine (isDig27 c w).mono ?_
    rintro e w' ⟨rfl, rfl⟩
    rw [hd]
    go_wp2
    all_goals (go_ret; exact ⟨ret_bool (by simp_all [isHex] <;> omega), rfl⟩)
set_option maxHeartbeats 1000000 in
theorem follow21 (c : Int) (w : World) : Calls Try.prog 21 #[.int .u8 c] w fun e w' => e = .returned (.bool (endsLit c)) ∧ w' = w := by
  cases hd : isWs c
  · go_enter Try.func21, Try.ntmps21
    go_wp2_with fail
    refine (isWs29 c w).mono ?_
    rintro e w' ⟨rfl, rfl⟩
    rw [hd]
    go_wp2
    all_goals (go_ret; exact ⟨by simp_all [endsLit, isSep], rfl⟩)
  · go_enter Try.func21, Try.ntmps21
    go_wp2_with fail
    refine (isWs29 c w).mono ?_
    rintro e w' ⟨rfl, rfl⟩
    rw [hd]
    go_wp2
    all_goals (go_ret; exact ⟨by simp_all [endsLit, isSep], rfl⟩)
set_option maxHeartbeats 1000000 in
theorem ends30 (c : Int) (w : World) : Calls Try.prog 30 #[.int .u8 c] w fun e w' => e = .returned (.bool (endsLit c)) ∧ w' = w := by
  go_enter Try.func30, Try.ntmps30
  go_wp2
  all_goals (go_ret; exact ⟨by simp_all [endsLit, isSep, isWs], rfl⟩)

end Go.Proofs.Qxb6604001a
