/-
  THE WALK OF 'FnBytesLenGrowsByOneByteAPutByte' (function 3).
-/
import Derived.WalkSpells
import Derived.Test.Qxb6613518aBl
import Derived.Test.Qxb6613518aRow
namespace Go.Proofs.Qxb6613518a
open Go.RowKit

theorem info5 : (Try.prog.info? 5).map (fun i => (i.zero, i.size, i.bytes)) = some (some (.int .u8 0), 1, 1) := by kernel_rfl
theorem size5 : (Try.prog.info? 5).map (·.size) = some 1 := by kernel_rfl

set_option maxRecDepth 100000 in
set_option maxHeartbeats 1000000 in
theorem grows_row (x : Addr) (n cap0 : Nat) (w : World) (hn : n ≤ 1048576) (hsrc : Src w (some x) n) :
    Calls Try.prog 3 #[.slice (some x) n cap0] w fun e w' => e = .returned (.bool true) ∧ Below w.heap.size w w' := by
  have hne := fun W : World => run_neq_slice_nil_any (P := Try.prog) W 22 5 (some x) n cap0 0 0 Try.underlying22
  have hmk := run_make_row' (P := Try.prog) 22 5 (.int .u8 0) 1 Try.underlying22 info5 rfl .i64 .i64 n (by omega) (by omega)
  have hmk1 := run_make_row' (P := Try.prog) 22 5 (.int .u8 0) 1 Try.underlying22 info5 rfl .i64 .i64 (n + 1) (by omega) (by omega)
  have ec : ((n + 1 : Nat) : Int) = (n : Int) + 1 := by omega
  rw [ec] at hmk1
  clear ec
  go_enter Try.func3, Try.ntmps3
  go_wp2_with (first
    | (go_at_call 7; go_in)
    | (refine wpList_copy_row rfl (.tmp 20) (.tmp 21) 22 22 rfl 5 Try.underlying22 size5 w.heap.size 0 n n (some x) n cap0 rfl rfl n 5 (RowAt.made _ _ rfl _ _) (hsrc.alloc _) ?_ w.heap.size w ((Below.refl _ _).alloc (Nat.le_refl _) _) (Nat.le_refl _) ?_))
  · simp
  clear hsrc hmk hne
  intro w2 hr2 hb2 hk2 hs2
  clear hk2 hs2
  have hlt := hr2.lt
  go_wp2_with (first
    | (refine wpList_copy_row rfl (.tmp 29) (.tmp 30) 22 22 rfl 5 Try.underlying22 size5 w2.heap.size 0 (n + 1) (n + 1) (some ⟨w.heap.size, 0, none⟩) n n rfl rfl (n + 1) 5 (RowAt.made _ _ rfl _ _) ((hr2.alloc _).src 0 n ?_) ?_ w.heap.size w (hb2.alloc ?_ _) ?_ ?_))
  · simp
  · simp
  · omega
  · omega
  intro w3 hr3 hb3 hk3 hs3
  clear hk3 hs3 hmk1
  obtain ⟨u, hc, _⟩ := hr3.cell (j := n) (by omega)
  have hf := hr3.frozen n
  have hst := grow_step hn
  obtain ⟨p, hp⟩ : ∃ p : Nat, p = uvN n := ⟨_, rfl⟩
  obtain ⟨q, hq⟩ : ∃ q : Nat, q = uvN (n + 1) := ⟨_, rfl⟩
  have hp1 := uvN_le3 (x := n) (by omega)
  have hq1 := uvN_le3 (x := n + 1) (by omega)
  rw [← hp] at hst hp1
  rw [← hq] at hst hq1
  have HP : Hid (p = uvN n) := hp
  have HQ : Hid (q = uvN (n + 1)) := hq
  clear hp hq
  go_wp2_with fail
  refine (zzBytesLen_any _ _ _ (by omega) _).mono ?_
  rintro e w' ⟨rfl, rfl⟩
  rw [uvI_nat, ← HP.out]
  go_wp2_with fail
  refine (zzBytesLen_any _ _ _ (by omega) _).mono ?_
  rintro e w' ⟨rfl, rfl⟩
  rw [uvI_nat, ← HQ.out]
  rcases hst with ⟨h1, rfl⟩ | ⟨h1, h2, rfl⟩ | ⟨h1, h2, rfl⟩
  all_goals
    go_wp2_with fail
    refine (uvBytes_any _ (by omega) (by omega) _).mono ?_
    rintro e w' ⟨rfl, rfl⟩
    rw [uvI_nat, ← HP.out]
    go_wp2
    go_ret
    exact ⟨ret_true (beq_iff_eq.2 (by omega)), hb3.setCell (by show _ ≤ w2.heap.size; omega) _⟩

set_option maxRecDepth 100000 in
set_option maxHeartbeats 1000000 in
theorem grows_nil (w : World) :
    Calls Try.prog 3 #[.slice none 0 0] w fun e w' => e = .returned (.bool true) ∧ Below w.heap.size w w' := by
  have hne := fun W : World => run_neq_slice_nil_any (P := Try.prog) W 22 5 none 0 0 0 0 Try.underlying22
  have hmk1 : ∀ W : World, (Instr.makeSlice 22 (.int .i64 1) (.int .i64 1)).run Try.prog W = .ok (.slice (some ⟨W.heap.size, 0, none⟩) 1 1) (W.alloc (.cells (madeCells #[.int .u8 0] 1) 5)) :=
    run_make_row' (P := Try.prog) 22 5 (.int .u8 0) 1 Try.underlying22 info5 rfl .i64 .i64 1 (by omega) (by omega)
  go_enter Try.func3, Try.ntmps3
  go_wp2_with (first
    | (go_at_call 7; go_in)
    | (refine wpList_copy_row rfl (.tmp 29) (.tmp 30) 22 22 rfl 5 Try.underlying22 size5 w.heap.size 0 1 1 none 0 0 rfl rfl 1 5 (RowAt.made _ _ rfl _ _) (Src.zero _ _) ?_ w.heap.size w ((Below.refl _ _).alloc (Nat.le_refl _) _) (Nat.le_refl _) ?_))
  · simp
  intro w3 hr3 hb3 hk3 hs3
  clear hk3 hs3 hmk1 hne
  obtain ⟨u, hc, _⟩ := hr3.cell (j := 0) (by omega)
  have hf := hr3.frozen 0
  have h0 := uvN_small (x := 0) (by omega)
  have h1 := uvN_small (x := 1) (by omega)
  have HP : Hid (uvI 0 = 1) := by show uvI ((0 : Nat) : Int) = 1; rw [uvI_nat, h0]; rfl
  have HQ : Hid (uvI 1 = 1) := by show uvI ((1 : Nat) : Int) = 1; rw [uvI_nat, h1]; rfl
  clear h0 h1
  go_wp2_with fail
  refine (zzBytesLen_any _ _ _ (by omega) _).mono ?_
  rintro e w' ⟨rfl, rfl⟩
  rw [show uvI ((0 : Nat) : Int) = 1 from HP.out]
  go_wp2_with fail
  refine (zzBytesLen_any _ _ _ (by omega) _).mono ?_
  rintro e w' ⟨rfl, rfl⟩
  rw [show uvI ((1 : Nat) : Int) = 1 from HQ.out]
  go_wp2_with fail
  refine (uvBytes_any _ (by omega) (by omega) _).mono ?_
  rintro e w' ⟨rfl, rfl⟩
  rw [HP.out]
  go_wp2
  go_ret
  exact ⟨rfl, hb3.setCell (Nat.le_refl _) _⟩

set_option maxRecDepth 100000 in
set_option maxHeartbeats 400000 in
theorem grows_long (a : Option Addr) (n cap0 : Nat) (w : World) (hn : 1048576 < n) (hm : n ≤ maxLen) :
    Calls Try.prog 3 #[.slice a n cap0] w fun e w' => e = .returned (.bool true) ∧ Below w.heap.size w w' := by
  unfold maxLen at hm
  go_enter Try.func3, Try.ntmps3
  go_wp2
  go_ret
  exact ⟨rfl, Below.refl _ _⟩

end Go.Proofs.Qxb6613518a
