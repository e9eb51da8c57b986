/-
  THE WALKS OF 'isJSONSpace' (10), 'allJSONSpace' (9).
-/
import Derived.Test.Qxb6614160aSkip
namespace Go.Proofs.Qxb6614160a
open Go.RowKit

theorem ret_bool {a b : Bool} (h : a = b) : Ending.returned (.bool a) = .returned (.bool b) := by rw [h]

set_option maxRecDepth 100000 in
set_option maxHeartbeats 1000000 in
theorem isJSONSpace_any (c : UInt8) (w : World) :
    Calls Try.prog 10 #[.int .u8 c.toNat] w fun e w' => e = .returned (.bool (spB c)) ∧ w' = w := by
  by_cases h1 : ((c.toNat : Int) == 32) = true
  · rw [sp_yes (.inl h1)]
    go_enter Try.func10, Try.ntmps10
    go_wp2
    go_ret
    exact ⟨rfl, rfl⟩
  · replace h1 := Bool.eq_false_iff.2 h1
    by_cases h2 : ((c.toNat : Int) == 9) = true
    · rw [sp_yes (.inr (.inl h2))]
      go_enter Try.func10, Try.ntmps10
      go_wp2
      go_ret
      exact ⟨rfl, rfl⟩
    · replace h2 := Bool.eq_false_iff.2 h2
      by_cases h3 : ((c.toNat : Int) == 10) = true
      · rw [sp_yes (.inr (.inr (.inl h3)))]
        go_enter Try.func10, Try.ntmps10
        go_wp2
        go_ret
        exact ⟨rfl, rfl⟩
      · replace h3 := Bool.eq_false_iff.2 h3
        by_cases h4 : ((c.toNat : Int) == 13) = true
        · rw [sp_yes (.inr (.inr (.inr h4)))]
          go_enter Try.func10, Try.ntmps10
          go_wp2
          go_ret
          exact ⟨rfl, rfl⟩
        · replace h4 := Bool.eq_false_iff.2 h4
          rw [sp_no h1 h2 h3 h4]
          go_enter Try.func10, Try.ntmps10
          go_wp2
          go_ret
          exact ⟨rfl, rfl⟩

/-- All bytes are blanks. -/
def allB (s : ByteArray) : Bool := s.data.toList.all spB

theorem all_step (s : ByteArray) (k : Nat) (h : k < s.size) (hc : spB s[k] = true) (H : ∀ c ∈ s.data.toList.take k, spB c = true) : ∀ c ∈ s.data.toList.take (k + 1), spB c = true := by
  intro c hm
  rw [List.take_succ_eq_append_getElem (by simpa using h)] at hm
  rcases List.mem_append.1 hm with hm | hm
  · exact H c hm
  · rw [List.mem_singleton.1 hm]; exact hc

theorem all_yes (s : ByteArray) (k : Nat) (h : s.size ≤ k) (H : ∀ c ∈ s.data.toList.take k, spB c = true) : allB s = true := by
  rw [List.take_of_length_le (by simpa using h)] at H
  exact List.all_eq_true.2 H

theorem all_no (s : ByteArray) (k : Nat) (h : k < s.size) (hc : spB s[k] = false) : allB s = false := by
  apply Bool.eq_false_iff.2
  intro ha
  have := List.all_eq_true.1 ha s[k] (List.getElem_mem (l := s.data.toList) (by simpa using h))
  rw [hc] at this
  cases this

set_option maxRecDepth 100000 in
set_option maxHeartbeats 1000000 in
theorem allJSONSpace_any (s : ByteArray) (w : World) (hs : s.size ≤ 1048576) :
    Calls Try.prog 9 #[.string s] w fun e w' => e = .returned (.bool (allB s)) ∧ w' = w := by
  go_enter Try.func9, Try.ntmps9
  go_wp2
  go_loop [3] (fun i => ∃ k : Nat, k ≤ s.size ∧ i = .int .i64 k ∧ Hid (∀ c ∈ s.data.toList.take k, spB c = true)) (fun i => s.size - (intOf i).toNat)
  case atStart => exact ⟨0, Nat.zero_le _, rfl, by show ∀ c ∈ List.take 0 s.data.toList, _; simp⟩
  case round =>
    obtain ⟨k, hk, rfl, H⟩ := hrel
    by_cases hlt : k < s.size
    · by_cases hc : spB s[k] = true
      · have HC : Hid (spB s[k] = true) := hc
        clear hc
        go_wp2_with fail
        refine (isJSONSpace_any _ _).mono ?_
        rintro e w' ⟨rfl, rfl⟩
        rw [HC.out]
        go_wp2
        go_round
        case rel => exact ⟨k + 1, by omega, by go_num, all_step s k hlt HC.out H.out⟩
        case measure => simp [intOf]; omega
      · replace hc := Bool.eq_false_iff.2 hc
        have HC : Hid (spB s[k] = false) := hc
        clear hc
        go_wp2_with fail
        refine (isJSONSpace_any _ _).mono ?_
        rintro e w' ⟨rfl, rfl⟩
        rw [HC.out]
        go_wp2
        go_ret
        exact ⟨ret_bool (all_no s k hlt HC.out).symm, rfl⟩
    · go_wp2
      go_ret
      exact ⟨ret_bool (all_yes s k (by omega) H.out).symm, rfl⟩

end Go.Proofs.Qxb6614160a
