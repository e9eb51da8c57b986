/-
  THE WALK OF 'FnSkipSpaceInsertedBlank' (function 4).
-/
import Derived.Test.Qxb6614160aJoinWalk
import Derived.Lib.IndexBytes
import Derived.Deep.RegionWith
namespace Go.Proofs.Qxb6614160a
open Go.RowKit

theorem Grows.drew {a b : World} (h : Grows a b) : Grows a b.drew := ⟨h.1.drew, h.2⟩

theorem insert_bytes (s m : ByteArray) (j : Nat) (hj : j ≤ s.size) (hm : allB m = true) :
    skipTo (s.extract 0 j ++ m ++ s.extract j s.size).data.toList j = skipTo s.data.toList j + m.size := by
  rw [bytes_append, bytes_append, Lib.extract_to_end, Lib.extract_data, Nat.sub_zero, List.drop_zero, insert_blank (by rw [bytes_length]; exact hj) (List.all_eq_true.1 hm), bytes_length]

theorem insert_size (s m : ByteArray) (j : Nat) (hj : j ≤ s.size) : (s.extract 0 j ++ m ++ s.extract j s.size).size = s.size + m.size := by
  rw [ByteArray.size_append, ByteArray.size_append, ByteArray.size_extract, ByteArray.size_extract]; omega

set_option maxRecDepth 100000 in
set_option maxHeartbeats 2000000 in
theorem blank_in (s m : ByteArray) (j : Nat) (w : World) (ha : s.size ≤ 524288) (hb : m.size ≤ 524288) (hj : j ≤ s.size) (hm : allB m = true) (hr : skipTo s.data.toList j < s.size) :
    Calls Try.prog 4 #[.string s, .string m, .int .i64 j] w fun e w' => e = .returned (.bool true) ∧ Grows w w' := by
  have e1 := insert_bytes s m j hj hm
  have hle := (skipTo_le (l := s.data.toList) (j := j) (by rw [bytes_length]; exact hj)).1
  have hno := stop_noblank (a := s.data.toList) (j := j) (by rw [bytes_length]; exact hr)
  obtain ⟨r, hr0⟩ : ∃ r, r = skipTo s.data.toList j := ⟨_, rfl⟩
  rw [← hr0] at e1 hr hle
  have hno' : spB s[r] = false := by
    have : s.data.toList[r]'(by rw [bytes_length]; exact hr) = s.data.toList[skipTo s.data.toList j]'(by rw [bytes_length, ← hr0]; exact hr) := by congr 1
    show spB (s.data.toList[r]'(by rw [bytes_length]; exact hr)) = false
    rw [this]; exact hno
  have R0 : Hid (r = skipTo s.data.toList j) := hr0
  have E1 : Hid (skipTo (s.extract 0 j ++ m ++ s.extract j s.size).data.toList j = r + m.size) := e1
  have HN : Hid (spB s[r] = false) := hno'
  have HM : Hid (allB m = true) := hm
  clear hr0 e1 hno hno' hm
  go_enter Try.func4, Try.ntmps4
  go_wp2_with (go_at_call 11; go_in)
  refine (allJSONSpace_any _ _ (by omega)).mono ?_
  rintro e w0 ⟨rfl, rfl⟩
  rw [HM.out]
  go_wp2_with fail
  refine (zzSkipSpace_any s j _ (by omega) hj).mono ?_
  rintro e w1 ⟨rfl, g1⟩
  rw [← R0.out]
  go_wp2
  have q1 : (0 : Int) ≤ (j : Int) := by omega
  have q2 : (j : Int) ≤ (s.size : Int) := by omega
  have hz := insert_size s m j hj
  have HZ : Hid ((s.extract 0 j ++ m ++ s.extract j s.size).size = s.size + m.size) := hz
  clear hz
  go_region_with (go_at_call 8; refine (zzSkipSpace_any (s.extract 0 j ++ m ++ s.extract j s.size) j _ (by rw [HZ.out]; omega) (by rw [HZ.out]; omega)).mono ?_; rintro e w2 ⟨rfl, g2⟩; rw [E1.out])
  have hne : ((r : Int) == (s.size : Int)) = false := beq_eq_false_iff_ne.2 (by omega)
  go_wp2_with fail
  refine (isJSONSpace_any _ _).mono ?_
  rintro e w4 ⟨rfl, rfl⟩
  rw [HN.out]
  go_wp2
  go_ret
  exact ⟨rfl, g1.drew.trans g2⟩

set_option maxRecDepth 100000 in
set_option maxHeartbeats 2000000 in
theorem blank_out (s m : ByteArray) (j : Nat) (w : World) (ha : s.size ≤ 524288) (hb : m.size ≤ 524288) (hj : j ≤ s.size) (hm : allB m = true) (hr : skipTo s.data.toList j = s.size) :
    Calls Try.prog 4 #[.string s, .string m, .int .i64 j] w fun e w' => e = .returned (.bool true) ∧ Grows w w' := by
  have e1 := insert_bytes s m j hj hm
  rw [hr] at e1
  have R0 : Hid (skipTo s.data.toList j = s.size) := hr
  have E1 : Hid (skipTo (s.extract 0 j ++ m ++ s.extract j s.size).data.toList j = s.size + m.size) := e1
  have HM : Hid (allB m = true) := hm
  clear hr e1 hm
  go_enter Try.func4, Try.ntmps4
  go_wp2_with (go_at_call 11; go_in)
  refine (allJSONSpace_any _ _ (by omega)).mono ?_
  rintro e w0 ⟨rfl, rfl⟩
  rw [HM.out]
  go_wp2_with fail
  refine (zzSkipSpace_any s j _ (by omega) hj).mono ?_
  rintro e w1 ⟨rfl, g1⟩
  rw [R0.out]
  go_wp2
  have q1 : (0 : Int) ≤ (j : Int) := by omega
  have q2 : (j : Int) ≤ (s.size : Int) := by omega
  have hz := insert_size s m j hj
  have HZ : Hid ((s.extract 0 j ++ m ++ s.extract j s.size).size = s.size + m.size) := hz
  clear hz
  go_region_with (go_at_call 8; refine (zzSkipSpace_any (s.extract 0 j ++ m ++ s.extract j s.size) j _ (by rw [HZ.out]; omega) (by rw [HZ.out]; omega)).mono ?_; rintro e w2 ⟨rfl, g2⟩; rw [E1.out])
  go_wp2
  go_ret
  exact ⟨rfl, g1.drew.trans g2⟩

set_option maxRecDepth 100000 in
set_option maxHeartbeats 1000000 in
theorem blank_not (s m : ByteArray) (j : Nat) (w : World) (ha : s.size ≤ 524288) (hb : m.size ≤ 524288) (hj : j ≤ s.size) (hm : allB m = false) :
    Calls Try.prog 4 #[.string s, .string m, .int .i64 j] w fun e w' => e = .returned (.bool true) ∧ Grows w w' := by
  have HM : Hid (allB m = false) := hm
  clear hm
  go_enter Try.func4, Try.ntmps4
  go_wp2_with (go_at_call 11; go_in)
  refine (allJSONSpace_any _ _ (by omega)).mono ?_
  rintro e w0 ⟨rfl, rfl⟩
  rw [HM.out]
  go_wp2
  go_ret
  exact ⟨rfl, Grows.refl _⟩

set_option maxRecDepth 100000 in
set_option maxHeartbeats 1000000 in
theorem blank_place (a b : ByteArray) (i : Int) (w : World) (ha : a.size ≤ 524288) (hb : b.size ≤ 524288) (hi : i < 0 ∨ (a.size : Int) < i) :
    Calls Try.prog 4 #[.string a, .string b, .int .i64 i] w fun e w' => e = .returned (.bool true) ∧ Grows w w' := by
  rcases hi with hi | hi
  · go_enter Try.func4, Try.ntmps4
    go_wp2
    go_ret
    exact ⟨rfl, Grows.refl _⟩
  · have h0 : ¬ i < 0 := by omega
    go_enter Try.func4, Try.ntmps4
    go_wp2
    go_ret
    exact ⟨rfl, Grows.refl _⟩

set_option maxRecDepth 100000 in
set_option maxHeartbeats 1000000 in
theorem blank_long (a b : ByteArray) (i : Int) (w : World) (ha : a.size ≤ maxLen) (hb : b.size ≤ maxLen) (h : 524288 < a.size ∨ 524288 < b.size) :
    Calls Try.prog 4 #[.string a, .string b, .int .i64 i] w fun e w' => e = .returned (.bool true) ∧ Grows w w' := by
  unfold maxLen at ha hb
  by_cases c1 : 1048576 < a.size
  · go_enter Try.func4, Try.ntmps4
    go_wp2
    go_ret
    exact ⟨rfl, Grows.refl _⟩
  · by_cases c2 : 1048576 < b.size
    · go_enter Try.func4, Try.ntmps4
      go_wp2
      go_ret
      exact ⟨rfl, Grows.refl _⟩
    · by_cases c3 : 1048576 < a.size + b.size
      · go_enter Try.func4, Try.ntmps4
        go_wp2
        go_ret
        exact ⟨rfl, Grows.refl _⟩
      · by_cases c4 : 524288 < a.size
        · go_enter Try.func4, Try.ntmps4
          go_wp2
          go_ret
          exact ⟨rfl, Grows.refl _⟩
        · have c5 : 524288 < b.size := by omega
          clear h
          go_enter Try.func4, Try.ntmps4
          go_wp2
          go_ret
          exact ⟨rfl, Grows.refl _⟩

end Go.Proofs.Qxb6614160a
