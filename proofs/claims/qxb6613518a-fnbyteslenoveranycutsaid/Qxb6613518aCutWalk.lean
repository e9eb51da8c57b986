/-
  THE WALK OF 'FnBytesLenOverAnyCut' (function 4).
-/
import Derived.WalkSpells
import Derived.Test.Qxb6613518aBl
import Derived.Test.Qxb6613518aRow
namespace Go.Proofs.Qxb6613518a
open Go.RowKit

theorem info5' : (Try.prog.info? 5).map (fun i => (i.zero, i.size, i.bytes)) = some (some (.int .u8 0), 1, 1) := by kernel_rfl
theorem size5' : (Try.prog.info? 5).map (·.size) = some 1 := by kernel_rfl

set_option maxRecDepth 100000 in
set_option maxHeartbeats 1000000 in
theorem cut_row (x : Addr) (n cap0 i : Nat) (w : World) (hn : n ≤ 1048576) (hi : i < n) (hsrc : Src w (some x) n) :
    Calls Try.prog 4 #[.slice (some x) n cap0, .int .i64 i] w fun e w' => e = .returned (.bool true) ∧ Below w.heap.size w w' := by
  have hne := fun W : World => run_neq_slice_nil_any (P := Try.prog) W 22 5 (some x) n cap0 0 0 Try.underlying22
  have hmk := run_make_row' (P := Try.prog) 22 5 (.int .u8 0) 1 Try.underlying22 info5' rfl .i64 .i64 n (by omega) (by omega)
  go_enter Try.func4, Try.ntmps4
  go_wp2_with (first
    | (go_at_call 10; go_in)
    | (refine wpList_copy_row rfl (.tmp 30) (.tmp 31) 22 22 rfl 5 Try.underlying22 size5' w.heap.size 0 n n (some x) n cap0 rfl rfl n 5 (RowAt.made _ _ rfl _ _) (hsrc.alloc _) ?_ w.heap.size w ((Below.refl _ _).alloc (Nat.le_refl _) _) (Nat.le_refl _) ?_))
  · simp
  clear hsrc hmk hne
  intro w2 hr2 hb2 hk2 hs2
  clear hk2 hs2
  obtain ⟨p, hp⟩ : ∃ p : Nat, p = uvN n := ⟨_, rfl⟩
  obtain ⟨q, hq⟩ : ∃ q : Nat, q = uvN i := ⟨_, rfl⟩
  obtain ⟨r, hr⟩ : ∃ r : Nat, r = uvN (n - i) := ⟨_, rfl⟩
  have hp1 := uvN_le3 (x := n) (by omega)
  have hq1 := uvN_le3 (x := i) (by omega)
  have hr1 := uvN_le3 (x := n - i) (by omega)
  rw [← hp] at hp1
  rw [← hq] at hq1
  rw [← hr] at hr1
  have HP : Hid (p = uvN n) := hp
  have HQ : Hid (q = uvN i) := hq
  have HR : Hid (r = uvN (n - i)) := hr
  clear hp hq hr
  go_wp2_with fail
  refine (zzBytesLen_any _ _ _ (by omega) _).mono ?_
  rintro e w' ⟨rfl, rfl⟩
  rw [uvI_nat, ← HP.out]
  go_wp2_with fail
  refine (zzBytesLen_any _ _ _ (by omega) _).mono ?_
  rintro e w' ⟨rfl, rfl⟩
  rw [uvI_nat, ← HQ.out]
  go_wp2_with fail
  refine (zzBytesLen_any _ _ _ (by omega) _).mono ?_
  rintro e w' ⟨rfl, rfl⟩
  rw [uvI_nat, ← HR.out]
  go_wp2_with fail
  refine (uvBytes_any _ (by omega) (by omega) _).mono ?_
  rintro e w' ⟨rfl, rfl⟩
  rw [uvI_nat, ← HP.out]
  go_wp2_with fail
  refine (uvBytes_any _ (by omega) (by omega) _).mono ?_
  rintro e w' ⟨rfl, rfl⟩
  rw [uvI_nat, ← HQ.out]
  go_wp2_with fail
  refine (uvBytes_any _ (by omega) (by omega) _).mono ?_
  rintro e w' ⟨rfl, rfl⟩
  rw [show (n : Int) - (i : Int) = ((n - i : Nat) : Int) by omega, uvI_nat, ← HR.out]
  go_wp2_with fail
  refine (uvBytes_any _ (by omega) (by omega) _).mono ?_
  rintro e w' ⟨rfl, rfl⟩
  rw [uvI_nat, ← HP.out]
  go_wp2
  go_ret
  exact ⟨ret_true (beq_iff_eq.2 (by omega)), by assumption⟩

set_option maxRecDepth 100000 in
set_option maxHeartbeats 1000000 in
theorem cut_end (x : Addr) (n cap0 : Nat) (w : World) (hn : n ≤ 1048576) (hsrc : Src w (some x) n) :
    Calls Try.prog 4 #[.slice (some x) n cap0, .int .i64 n] w fun e w' => e = .returned (.bool true) ∧ Below w.heap.size w w' := by
  have hne := fun W : World => run_neq_slice_nil_any (P := Try.prog) W 22 5 (some x) n cap0 0 0 Try.underlying22
  have hmk := run_make_row' (P := Try.prog) 22 5 (.int .u8 0) 1 Try.underlying22 info5' rfl .i64 .i64 n (by omega) (by omega)
  go_enter Try.func4, Try.ntmps4
  go_wp2_with (first
    | (go_at_call 10; go_in)
    | (refine wpList_copy_row rfl (.tmp 30) (.tmp 31) 22 22 rfl 5 Try.underlying22 size5' w.heap.size 0 n n (some x) n cap0 rfl rfl n 5 (RowAt.made _ _ rfl _ _) (hsrc.alloc _) ?_ w.heap.size w ((Below.refl _ _).alloc (Nat.le_refl _) _) (Nat.le_refl _) ?_))
  · simp
  clear hsrc hmk hne
  intro w2 hr2 hb2 hk2 hs2
  clear hk2 hs2
  obtain ⟨p, hp⟩ : ∃ p : Nat, p = uvN n := ⟨_, rfl⟩
  have hp1 := uvN_le3 (x := n) (by omega)
  rw [← hp] at hp1
  have HP : Hid (p = uvN n) := hp
  clear hp
  go_wp2_with fail
  refine (zzBytesLen_any _ _ _ (by omega) _).mono ?_
  rintro e w' ⟨rfl, rfl⟩
  rw [uvI_nat, ← HP.out]
  go_wp2_with fail
  refine (zzBytesLen_any _ _ _ (by omega) _).mono ?_
  rintro e w' ⟨rfl, rfl⟩
  rw [uvI_nat, ← HP.out]
  go_wp2_with fail
  refine (zzBytesLen_any _ _ _ (by omega) _).mono ?_
  rintro e w' ⟨rfl, rfl⟩
  rw [uvI_nat, uvN_small (by omega : 0 < 128)]
  go_wp2_with fail
  refine (uvBytes_any _ (by omega) (by omega) _).mono ?_
  rintro e w' ⟨rfl, rfl⟩
  rw [uvI_nat, ← HP.out]
  go_wp2_with fail
  refine (uvBytes_any _ (by omega) (by omega) _).mono ?_
  rintro e w' ⟨rfl, rfl⟩
  rw [uvI_nat, ← HP.out]
  go_wp2_with fail
  refine (uvBytes_any _ (by omega) (by omega) _).mono ?_
  rintro e w' ⟨rfl, rfl⟩
  rw [uvI_zero]
  go_wp2_with fail
  refine (uvBytes_any _ (by omega) (by omega) _).mono ?_
  rintro e w' ⟨rfl, rfl⟩
  rw [uvI_nat, ← HP.out]
  go_wp2
  go_ret
  exact ⟨ret_true (beq_iff_eq.2 (by omega)), by assumption⟩

set_option maxRecDepth 100000 in
set_option maxHeartbeats 1000000 in
theorem cut_nil (w : World) :
    Calls Try.prog 4 #[.slice none 0 0, .int .i64 0] w fun e w' => e = .returned (.bool true) ∧ Below w.heap.size w w' := by
  have hne := fun W : World => run_neq_slice_nil_any (P := Try.prog) W 22 5 none 0 0 0 0 Try.underlying22
  go_enter Try.func4, Try.ntmps4
  go_wp2_with (go_at_call 10; go_in)
  refine (zzBytesLen_any _ _ _ (by omega) _).mono ?_
  rintro e w' ⟨rfl, rfl⟩
  rw [show uvI ((0 : Nat) : Int) = 1 from uvI_zero]
  go_wp2_with fail
  refine (zzBytesLen_any _ _ _ (by omega) _).mono ?_
  rintro e w' ⟨rfl, rfl⟩
  rw [show uvI ((0 : Nat) : Int) = 1 from uvI_zero]
  go_wp2_with fail
  refine (zzBytesLen_any _ _ _ (by omega) _).mono ?_
  rintro e w' ⟨rfl, rfl⟩
  rw [show uvI ((0 : Nat) : Int) = 1 from uvI_zero]
  go_wp2_with fail
  refine (uvBytes_any _ (by omega) (by omega) _).mono ?_
  rintro e w' ⟨rfl, rfl⟩
  rw [uvI_zero]
  go_wp2_with fail
  refine (uvBytes_any _ (by omega) (by omega) _).mono ?_
  rintro e w' ⟨rfl, rfl⟩
  rw [uvI_zero]
  go_wp2_with fail
  refine (uvBytes_any _ (by omega) (by omega) _).mono ?_
  rintro e w' ⟨rfl, rfl⟩
  rw [uvI_zero]
  go_wp2_with fail
  refine (uvBytes_any _ (by omega) (by omega) _).mono ?_
  rintro e w' ⟨rfl, rfl⟩
  rw [uvI_zero]
  go_wp2_with fail
  go_ret
  exact ⟨rfl, Below.refl _ _⟩

set_option maxRecDepth 100000 in
set_option maxHeartbeats 400000 in
theorem cut_long (a : Option Addr) (n cap0 : Nat) (i : Int) (w : World) (hn : 1048576 < n) (hm : n ≤ maxLen) :
    Calls Try.prog 4 #[.slice a n cap0, .int .i64 i] w fun e w' => e = .returned (.bool true) ∧ Below w.heap.size w w' := by
  unfold maxLen at hm
  go_enter Try.func4, Try.ntmps4
  go_wp2
  go_ret
  exact ⟨rfl, Below.refl _ _⟩

set_option maxRecDepth 100000 in
set_option maxHeartbeats 400000 in
theorem cut_out (a : Option Addr) (n cap0 : Nat) (i : Int) (w : World) (hn : n ≤ 1048576) (hi : i < 0 ∨ (n : Int) < i) :
    Calls Try.prog 4 #[.slice a n cap0, .int .i64 i] w fun e w' => e = .returned (.bool true) ∧ Below w.heap.size w w' := by
  rcases hi with hi | hi
  · go_enter Try.func4, Try.ntmps4
    go_wp2
    go_ret
    exact ⟨rfl, Below.refl _ _⟩
  · have h0 : ¬ i < 0 := by omega
    go_enter Try.func4, Try.ntmps4
    go_wp2
    go_ret
    exact ⟨rfl, Below.refl _ _⟩

end Go.Proofs.Qxb6613518a
