/- FnWriteQuotedDecodesBack, walked. -/
import Derived.Test.Qxb6603961aUnq
namespace Go.Proofs.Qxb6603961a
open Go.RowKit
set_option linter.unusedVariables false

set_option maxRecDepth 100000 in
set_option maxHeartbeats 400000 in
theorem bytes5 (a b : ByteArray) (w : World) (ha : a.size ≤ maxLen) (hb : b.size ≤ maxLen) :
    Calls Try.prog 5 #[.string a, .string b] w fun e w' => e = .returned (.bool (decide (a.size + b.size ≤ 1048576))) ∧ w' = w := by
  unfold maxLen at ha hb
  by_cases h1 : a.size ≤ 1048576
  · by_cases h2 : b.size ≤ 1048576
    · by_cases h3 : a.size + b.size ≤ 1048576
      · go_enter Try.func5, Try.ntmps5
        go_wp2
        go_ret
        exact ⟨by simp [h3], rfl⟩
      · go_enter Try.func5, Try.ntmps5
        go_wp2
        go_ret
        exact ⟨by simp [h3], rfl⟩
    · have h3 : ¬ (a.size + b.size ≤ 1048576) := by omega
      go_enter Try.func5, Try.ntmps5
      go_wp2
      go_ret
      exact ⟨by simp [h3], rfl⟩
  · have h3 : ¬ (a.size + b.size ≤ 1048576) := by omega
    go_enter Try.func5, Try.ntmps5
    go_wp2
    go_ret
    exact ⟨by simp [h3], rfl⟩

set_option maxRecDepth 100000 in
set_option maxHeartbeats 1000000 in
theorem quote_short (p s : ByteArray) (w : World) (hp : p.size ≤ 524288) (hs : s.size ≤ 524288) :
    Calls Try.prog 3 #[.string p, .string s] w fun e w' => e = .returned (.bool true) ∧ Below w.heap.size w w' := by
  have hd : decide (p.size + s.size ≤ 1048576) = true := by simp; omega
  have HD := hideIt hd
  clear hd
  go_enter Try.func3, Try.ntmps3
  go_wp2_with fail
  refine (bytes5 p s _ (by unfold maxLen; omega) (by unfold maxLen; omega)).mono ?_
  rintro e w0 ⟨rfl, rfl⟩
  rw [HD.out]
  go_wp2_with fail
  refine (zzwrite_any p s _ hs hp).mono ?_
  rintro e w1 ⟨rfl, hb1⟩
  obtain ⟨out, hout⟩ : ∃ o : ByteArray, o = ⟨(p.data.toList ++ 34 :: (encs s.data.toList ++ [34])).toArray⟩ := ⟨_, rfl⟩
  have HO : Hid (out.data.toList = p.data.toList ++ 34 :: (encs s.data.toList ++ [34])) := by rw [hout]; rfl
  rw [← hout]
  clear hout
  have hsz : out.size = p.size + ((encs s.data.toList).length + 2) := by rw [← size_list, HO.out, List.length_append, size_list]; simp
  have henc := encs_length s.data.toList
  rw [size_list] at henc
  have hle : p.size ≤ out.size := by omega
  have hlo : out.size ≤ 8000000 := by omega
  have hcmp : ((out.extract 0 p.size).toList == p.toList) = true := by
    rw [Lib.extract_toList, List.drop_zero, Nat.sub_zero, HO.out, ByteArray.toList_eq, ← size_list, List.take_left]; simp
  have HQ : Hid ((out.extract p.size out.size).data.toList = 34 :: (encs s.data.toList ++ [34])) := by
    show _ = _
    rw [Lib.extract_data, HO.out, ← size_list p, List.drop_left, List.take_of_length_le (by rw [hsz, size_list]; simp)]
  have hsl : s.data.toList.length ≤ 524288 := by rw [size_list]; exact hs
  clear hsz henc HO
  go_wp2_with fail
  refine (unquote_any _ s.data.toList _ hsl HQ.out).mono ?_
  rintro e w2 ⟨rfl, hb2⟩
  go_wp2
  go_ret
  refine ⟨?_, hb1.trans (hb2.mono hb1.size)⟩
  exact ret_bool (by simp)

set_option maxRecDepth 100000 in
set_option maxHeartbeats 1000000 in
theorem quote_long (p s : ByteArray) (w : World) (hp : p.size ≤ maxLen) (hs : s.size ≤ maxLen) (h : 524288 < p.size ∨ 524288 < s.size) :
    Calls Try.prog 3 #[.string p, .string s] w fun e w' => e = .returned (.bool true) ∧ Below w.heap.size w w' := by
  have hp' : p.size ≤ 9223372036854775807 := by unfold maxLen at hp; omega
  have hs' : s.size ≤ 9223372036854775807 := by unfold maxLen at hs; omega
  go_enter Try.func3, Try.ntmps3
  go_wp2_with fail
  refine (bytes5 p s _ hp hs).mono ?_
  rintro e w0 ⟨rfl, rfl⟩
  cases hd : decide (p.size + s.size ≤ 1048576)
  · go_wp2
    go_ret
    exact ⟨rfl, Below.refl _ _⟩
  · clear hd
    by_cases e1 : 524288 < p.size
    · clear h
      go_wp2
      go_ret
      exact ⟨rfl, Below.refl _ _⟩
    · have e2 : 524288 < s.size := by omega
      clear h
      go_wp2
      go_ret
      exact ⟨rfl, Below.refl _ _⟩
end Go.Proofs.Qxb6603961a
