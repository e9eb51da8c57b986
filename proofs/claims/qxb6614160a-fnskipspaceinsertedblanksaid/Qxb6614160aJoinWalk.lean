/-
  THE WALK OF 'FnSkipSpaceAcrossJoin' (function 3).
-/
import Derived.Test.Qxb6614160aSpace
import Derived.Lib.Strings
import Derived.WalkSpells
namespace Go.Proofs.Qxb6614160a
open Go.RowKit

theorem bytes_append (a b : ByteArray) : (a ++ b).data.toList = a.data.toList ++ b.data.toList := by simp
theorem bytes_length (a : ByteArray) : a.data.toList.length = a.size := by simp

theorem allB_skipped (a : ByteArray) (j : Nat) : allB (a.extract j (skipTo a.data.toList j)) = true := by
  unfold allB
  rw [Lib.extract_data]
  exact List.all_eq_true.2 skipped_blank

set_option maxRecDepth 100000 in
set_option maxHeartbeats 2000000 in
theorem join_in (a b : ByteArray) (j : Nat) (w : World) (ha : a.size ≤ 524288) (hb : b.size ≤ 524288) (hj : j ≤ a.size) (hr : skipTo a.data.toList j < a.size) :
    Calls Try.prog 3 #[.string a, .string b, .int .i64 j] w fun e w' => e = .returned (.bool true) ∧ Grows w w' := by
  have e1 := join_stop (a := a.data.toList) (b := b.data.toList) (j := j) (by rw [bytes_length]; exact hj) (by rw [bytes_length]; exact hr)
  rw [← bytes_append] at e1
  have hle := (skipTo_le (l := a.data.toList) (j := j) (by rw [bytes_length]; exact hj)).1
  have hal := allB_skipped a j
  have hno := stop_noblank (a := a.data.toList) (j := j) (by rw [bytes_length]; exact hr)
  have hB := skipTo_le (l := b.data.toList) (j := 0) (by omega)
  rw [bytes_length] at hB
  obtain ⟨r, hr0⟩ : ∃ r, r = skipTo a.data.toList j := ⟨_, rfl⟩
  obtain ⟨q, hq0⟩ : ∃ q, q = skipTo b.data.toList 0 := ⟨_, rfl⟩
  rw [← hr0] at e1 hr hle hal
  rw [← hq0] at hB
  have hno' : spB a[r] = false := by
    have : a.data.toList[r]'(by rw [bytes_length]; exact hr) = a.data.toList[skipTo a.data.toList j]'(by rw [bytes_length, ← hr0]; exact hr) := by congr 1
    show spB (a.data.toList[r]'(by rw [bytes_length]; exact hr)) = false
    rw [this]; exact hno
  have R0 : Hid (r = skipTo a.data.toList j) := hr0
  have Q0 : Hid (q = skipTo b.data.toList 0) := hq0
  have E1 : Hid (skipTo (a ++ b).data.toList j = r) := e1
  have HA : Hid (allB (a.extract j r) = true) := hal
  have HN : Hid (spB a[r] = false) := hno'
  clear hr0 hq0 e1 hal hno hno'
  go_enter Try.func3, Try.ntmps3
  go_wp2_with (go_at_call 7; go_in)
  refine (zzSkipSpace_any a j _ (by omega) hj).mono ?_
  rintro e w1 ⟨rfl, g1⟩
  rw [← R0.out]
  go_wp2_with fail
  refine (zzSkipSpace_any (a ++ b) j _ (by rw [ByteArray.size_append]; omega) (by rw [ByteArray.size_append]; omega)).mono ?_
  rintro e w2 ⟨rfl, g2⟩
  rw [E1.out]
  go_wp2_with fail
  refine (zzSkipSpace_any b 0 _ (by omega) (by omega)).mono ?_
  rintro e w3 ⟨rfl, g3⟩
  rw [← Q0.out]
  go_wp2_with fail
  refine (allJSONSpace_any _ _ (by rw [ByteArray.size_extract]; omega)).mono ?_
  rintro e w4 ⟨rfl, rfl⟩
  rw [HA.out]
  have hne : ((r : Int) == (a.size : Int)) = false := beq_eq_false_iff_ne.2 (by omega)
  go_wp2_with fail
  refine (isJSONSpace_any _ _).mono ?_
  rintro e w4 ⟨rfl, rfl⟩
  rw [HN.out]
  go_wp2
  go_ret
  exact ⟨rfl, (g1.trans g2).trans g3⟩

set_option maxRecDepth 100000 in
set_option maxHeartbeats 2000000 in
theorem join_out (a b : ByteArray) (j : Nat) (w : World) (ha : a.size ≤ 524288) (hb : b.size ≤ 524288) (hj : j ≤ a.size) (hr : skipTo a.data.toList j = a.size) :
    Calls Try.prog 3 #[.string a, .string b, .int .i64 j] w fun e w' => e = .returned (.bool true) ∧ Grows w w' := by
  have e1 := join_end (a := a.data.toList) (b := b.data.toList) (j := j) (by rw [bytes_length]; exact hj) (by rw [bytes_length]; exact hr)
  rw [← bytes_append, bytes_length] at e1
  have hal := allB_skipped a j
  have hB := skipTo_le (l := b.data.toList) (j := 0) (by omega)
  rw [bytes_length] at hB
  obtain ⟨q, hq0⟩ : ∃ q, q = skipTo b.data.toList 0 := ⟨_, rfl⟩
  rw [hr] at hal
  rw [← hq0] at hB e1
  have R0 : Hid (skipTo a.data.toList j = a.size) := hr
  have Q0 : Hid (q = skipTo b.data.toList 0) := hq0
  have E1 : Hid (skipTo (a ++ b).data.toList j = a.size + q) := e1
  have HA : Hid (allB (a.extract j a.size) = true) := hal
  clear hr hq0 e1 hal
  go_enter Try.func3, Try.ntmps3
  go_wp2_with (go_at_call 7; go_in)
  refine (zzSkipSpace_any a j _ (by omega) hj).mono ?_
  rintro e w1 ⟨rfl, g1⟩
  rw [R0.out]
  go_wp2_with fail
  refine (zzSkipSpace_any (a ++ b) j _ (by rw [ByteArray.size_append]; omega) (by rw [ByteArray.size_append]; omega)).mono ?_
  rintro e w2 ⟨rfl, g2⟩
  rw [E1.out]
  go_wp2_with fail
  refine (zzSkipSpace_any b 0 _ (by omega) (by omega)).mono ?_
  rintro e w3 ⟨rfl, g3⟩
  rw [← Q0.out]
  go_wp2_with fail
  refine (allJSONSpace_any _ _ (by rw [ByteArray.size_extract]; omega)).mono ?_
  rintro e w4 ⟨rfl, rfl⟩
  rw [HA.out]
  go_wp2
  go_ret
  exact ⟨rfl, (g1.trans g2).trans g3⟩

set_option maxRecDepth 100000 in
set_option maxHeartbeats 1000000 in
theorem join_place (a b : ByteArray) (i : Int) (w : World) (ha : a.size ≤ 524288) (hb : b.size ≤ 524288) (hi : i < 0 ∨ (a.size : Int) < i) :
    Calls Try.prog 3 #[.string a, .string b, .int .i64 i] w fun e w' => e = .returned (.bool true) ∧ Grows w w' := by
  rcases hi with hi | hi
  · go_enter Try.func3, Try.ntmps3
    go_wp2
    go_ret
    exact ⟨rfl, Grows.refl _⟩
  · have h0 : ¬ i < 0 := by omega
    go_enter Try.func3, Try.ntmps3
    go_wp2
    go_ret
    exact ⟨rfl, Grows.refl _⟩

set_option maxRecDepth 100000 in
set_option maxHeartbeats 1000000 in
theorem join_long (a b : ByteArray) (i : Int) (w : World) (ha : a.size ≤ maxLen) (hb : b.size ≤ maxLen) (h : 524288 < a.size ∨ 524288 < b.size) :
    Calls Try.prog 3 #[.string a, .string b, .int .i64 i] w fun e w' => e = .returned (.bool true) ∧ Grows w w' := by
  unfold maxLen at ha hb
  by_cases c1 : 1048576 < a.size
  · go_enter Try.func3, Try.ntmps3
    go_wp2
    go_ret
    exact ⟨rfl, Grows.refl _⟩
  · by_cases c2 : 1048576 < b.size
    · go_enter Try.func3, Try.ntmps3
      go_wp2
      go_ret
      exact ⟨rfl, Grows.refl _⟩
    · by_cases c3 : 1048576 < a.size + b.size
      · go_enter Try.func3, Try.ntmps3
        go_wp2
        go_ret
        exact ⟨rfl, Grows.refl _⟩
      · by_cases c4 : 524288 < a.size
        · go_enter Try.func3, Try.ntmps3
          go_wp2
          go_ret
          exact ⟨rfl, Grows.refl _⟩
        · have c5 : 524288 < b.size := by omega
          clear h
          go_enter Try.func3, Try.ntmps3
          go_wp2
          go_ret
          exact ⟨rfl, Grows.refl _⟩

end Go.Proofs.Qxb6614160a
