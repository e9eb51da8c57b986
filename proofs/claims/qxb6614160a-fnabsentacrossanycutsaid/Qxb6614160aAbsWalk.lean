/-
  THE WALK OF 'FnAbsentAcrossAnyCut' (function 5).
-/
import Derived.Test.Qxb6614160aKeys
import Derived.WalkSpells
namespace Go.Proofs.Qxb6614160a
open Go.RowKit

theorem info9 : (Try.prog.info? 9).map (fun i => (i.zero, i.size, i.bytes)) = some (some (.string ByteArray.empty), 1, 16) := by kernel_rfl
theorem size9 : (Try.prog.info? 9).map (·.size) = some 1 := by kernel_rfl

set_option maxRecDepth 100000 in
set_option maxHeartbeats 2000000 in
theorem absent_nil (nm : ByteArray) (w : World) (hm : nm.size ≤ maxLen) :
    Calls Try.prog 5 #[.string nm, .slice none 0 0, .int .i64 0] w fun e w' => e = .returned (.bool true) ∧ Below w.heap.size w w' := by
  have hne := fun W : World => run_neq_slice_nil_any (P := Try.prog) W 26 9 none 0 0 0 0 Try.underlying26
  go_enter Try.func5, Try.ntmps5
  go_wp2_with fail
  refine (zzBytes12_any nm _ _ _ _ _ hm (by unfold maxLen; omega) (Src.zero _ _)).mono ?_
  rintro e w' ⟨b, rfl, hbt, rfl⟩
  clear hbt
  cases b
  · go_wp2
    go_ret
    exact ⟨rfl, Below.refl _ _⟩
  go_wp2_with fail
  refine (keyFits_any nm _ _ _ _ hm (by omega) (Src.zero _ _)).mono ?_
  rintro e w' ⟨b, rfl, hbt, rfl⟩
  clear hbt
  cases b
  · go_wp2
    go_ret
    exact ⟨rfl, Below.refl _ _⟩
  go_wp2_with fail
  refine (keyBytes_any _ _ _ _ (by omega) (Src.zero _ _)).mono ?_
  rintro e w' ⟨t, rfl, rfl⟩
  go_wp2_with fail
  refine (zzAbsent_none _ _ _ _ _).mono ?_
  rintro e w3 ⟨rfl, hbw3⟩
  go_wp2_with fail
  refine (keyBytes_any _ _ _ _ (by omega) (Src.zero _ _)).mono ?_
  rintro e w' ⟨t, rfl, rfl⟩
  go_wp2_with fail
  refine (zzAbsent_none _ _ _ _ _).mono ?_
  rintro e w4 ⟨rfl, hbw4⟩
  go_wp2_with fail
  refine (keyBytes_any _ _ _ _ (by omega) (Src.zero _ _)).mono ?_
  rintro e w' ⟨t, rfl, rfl⟩
  go_wp2_with fail
  refine (zzAbsent_none _ _ _ _ _).mono ?_
  rintro e w5 ⟨rfl, hbw5⟩
  go_wp2
  go_ret
  exact ⟨rfl, hbw3.trans ((hbw4.trans (hbw5.mono hbw4.size)).mono hbw3.size)⟩

set_option maxRecDepth 100000 in
set_option maxHeartbeats 2000000 in
theorem absent_mid (nm : ByteArray) (x : Addr) (n cap c : Nat) (w : World) (hm : nm.size ≤ maxLen) (hn : n ≤ 1048576) (h0 : 0 < c) (h1 : c < n) (hs : Src w (some x) n) :
    Calls Try.prog 5 #[.string nm, .slice (some x) n cap, .int .i64 c] w fun e w' => e = .returned (.bool true) ∧ Below w.heap.size w w' := by
  have hne := fun W : World => run_neq_slice_nil_any (P := Try.prog) W 26 9 (some x) n cap 0 0 Try.underlying26
  have hmk := run_make_row' (P := Try.prog) 26 9 (.string ByteArray.empty) 16 Try.underlying26 info9 rfl .i64 .i64 n (by omega) (by omega)
  go_enter Try.func5, Try.ntmps5
  go_wp2_with fail
  refine (zzBytes12_any nm _ _ _ _ _ hm (by unfold maxLen; omega) hs).mono ?_
  rintro e w' ⟨b, rfl, hbt, rfl⟩
  clear hbt
  cases b
  · go_wp2
    go_ret
    exact ⟨rfl, Below.refl _ _⟩
  go_wp2_with fail
  refine (keyFits_any nm _ _ _ _ hm (by omega) hs).mono ?_
  rintro e w' ⟨b, rfl, hbt, rfl⟩
  clear hbt
  cases b
  · go_wp2
    go_ret
    exact ⟨rfl, Below.refl _ _⟩
  go_wp2_with (refine wpList_copy_row rfl (.tmp 35) (.tmp 36) 26 26 rfl 9 Try.underlying26 size9 w'.heap.size 0 n n (some x) n cap rfl rfl n 9 (RowAt.made _ _ ⟨_, rfl⟩ _ _) (hs.alloc _) ?_ w'.heap.size w' ((Below.refl _ _).alloc (Nat.le_refl _) _) (Nat.le_refl _) ?_)
  · simp
  intro w2 hr2 hb2 hk2 hs2
  clear hk2 hs2 hs hmk hne
  have hl2 := hr2.lt
  have q1 : ((c : Int) == 0) = false := beq_eq_false_iff_ne.2 (by omega)
  have q2 : ((c : Int) == (n : Int)) = false := beq_eq_false_iff_ne.2 (by omega)
  go_wp2_with fail
  refine (keyBytes_any _ _ _ _ (by omega) (hr2.src 0 n (by omega))).mono ?_
  rintro e w' ⟨t, rfl, rfl⟩
  go_wp2_with fail
  refine (zzAbsent_some _ _ _ _ _ _ (by omega) (by omega)).mono ?_
  rintro e w3 ⟨rfl, hbw3⟩
  replace hr2 := hr2.below hbw3 hl2
  have hl3 := hr2.lt
  go_wp2_with fail
  refine (keyBytes_any _ _ _ _ (by omega) (hr2.src 0 _ (by omega))).mono ?_
  rintro e w' ⟨t, rfl, rfl⟩
  go_wp2_with fail
  refine (zzAbsent_some _ _ _ _ _ _ (by omega) (by omega)).mono ?_
  rintro e w4 ⟨rfl, hbw4⟩
  replace hr2 := hr2.below hbw4 hl3
  go_wp2_with fail
  refine (keyBytes_any _ _ _ _ (by omega) (hr2.src _ _ (by omega))).mono ?_
  rintro e w' ⟨t, rfl, rfl⟩
  go_wp2_with fail
  refine (zzAbsent_some _ _ _ _ _ _ (by omega) (by omega)).mono ?_
  rintro e w5 ⟨rfl, hbw5⟩
  go_wp2
  go_ret
  exact ⟨rfl, hb2.trans ((hbw3.trans ((hbw4.trans (hbw5.mono hbw4.size)).mono hbw3.size)).mono hb2.size)⟩

set_option maxRecDepth 100000 in
set_option maxHeartbeats 2000000 in
theorem absent_first (nm : ByteArray) (x : Addr) (n cap : Nat) (w : World) (hm : nm.size ≤ maxLen) (hn : n ≤ 1048576) (h1 : 0 < n) (hs : Src w (some x) n) :
    Calls Try.prog 5 #[.string nm, .slice (some x) n cap, .int .i64 0] w fun e w' => e = .returned (.bool true) ∧ Below w.heap.size w w' := by
  have hne := fun W : World => run_neq_slice_nil_any (P := Try.prog) W 26 9 (some x) n cap 0 0 Try.underlying26
  have hmk := run_make_row' (P := Try.prog) 26 9 (.string ByteArray.empty) 16 Try.underlying26 info9 rfl .i64 .i64 n (by omega) (by omega)
  go_enter Try.func5, Try.ntmps5
  go_wp2_with fail
  refine (zzBytes12_any nm _ _ _ _ _ hm (by unfold maxLen; omega) hs).mono ?_
  rintro e w' ⟨b, rfl, hbt, rfl⟩
  clear hbt
  cases b
  · go_wp2
    go_ret
    exact ⟨rfl, Below.refl _ _⟩
  go_wp2_with fail
  refine (keyFits_any nm _ _ _ _ hm (by omega) hs).mono ?_
  rintro e w' ⟨b, rfl, hbt, rfl⟩
  clear hbt
  cases b
  · go_wp2
    go_ret
    exact ⟨rfl, Below.refl _ _⟩
  go_wp2_with (refine wpList_copy_row rfl (.tmp 35) (.tmp 36) 26 26 rfl 9 Try.underlying26 size9 w'.heap.size 0 n n (some x) n cap rfl rfl n 9 (RowAt.made _ _ ⟨_, rfl⟩ _ _) (hs.alloc _) ?_ w'.heap.size w' ((Below.refl _ _).alloc (Nat.le_refl _) _) (Nat.le_refl _) ?_)
  · simp
  intro w2 hr2 hb2 hk2 hs2
  clear hk2 hs2 hs hmk hne
  have hl2 := hr2.lt
  have q2 : ((0 : Int) == (n : Int)) = false := beq_eq_false_iff_ne.2 (by omega)
  go_wp2_with fail
  refine (keyBytes_any _ _ _ _ (by omega) (hr2.src 0 n (by omega))).mono ?_
  rintro e w' ⟨t, rfl, rfl⟩
  go_wp2_with fail
  refine (zzAbsent_some _ _ _ _ _ _ (by omega) (by omega)).mono ?_
  rintro e w3 ⟨rfl, hbw3⟩
  replace hr2 := hr2.below hbw3 hl2
  have hl3 := hr2.lt
  go_wp2_with fail
  refine (keyBytes_any _ _ _ _ (by omega) (hr2.src 0 _ (by omega))).mono ?_
  rintro e w' ⟨t, rfl, rfl⟩
  go_wp2_with fail
  refine (zzAbsent_none _ _ _ _ _).mono ?_
  rintro e w4 ⟨rfl, hbw4⟩
  replace hr2 := hr2.below hbw4 hl3
  go_wp2_with fail
  refine (keyBytes_any _ _ _ _ (by omega) (hr2.src _ _ (by omega))).mono ?_
  rintro e w' ⟨t, rfl, rfl⟩
  go_wp2_with fail
  refine (zzAbsent_some _ _ _ _ _ _ (by omega) (by omega)).mono ?_
  rintro e w5 ⟨rfl, hbw5⟩
  go_wp2
  go_ret
  exact ⟨rfl, hb2.trans ((hbw3.trans ((hbw4.trans (hbw5.mono hbw4.size)).mono hbw3.size)).mono hb2.size)⟩

set_option maxRecDepth 100000 in
set_option maxHeartbeats 2000000 in
theorem absent_last (nm : ByteArray) (x : Addr) (n cap : Nat) (w : World) (hm : nm.size ≤ maxLen) (hn : n ≤ 1048576) (h1 : 0 < n) (hs : Src w (some x) n) :
    Calls Try.prog 5 #[.string nm, .slice (some x) n cap, .int .i64 n] w fun e w' => e = .returned (.bool true) ∧ Below w.heap.size w w' := by
  have hne := fun W : World => run_neq_slice_nil_any (P := Try.prog) W 26 9 (some x) n cap 0 0 Try.underlying26
  have hmk := run_make_row' (P := Try.prog) 26 9 (.string ByteArray.empty) 16 Try.underlying26 info9 rfl .i64 .i64 n (by omega) (by omega)
  go_enter Try.func5, Try.ntmps5
  go_wp2_with fail
  refine (zzBytes12_any nm _ _ _ _ _ hm (by unfold maxLen; omega) hs).mono ?_
  rintro e w' ⟨b, rfl, hbt, rfl⟩
  clear hbt
  cases b
  · go_wp2
    go_ret
    exact ⟨rfl, Below.refl _ _⟩
  go_wp2_with fail
  refine (keyFits_any nm _ _ _ _ hm (by omega) hs).mono ?_
  rintro e w' ⟨b, rfl, hbt, rfl⟩
  clear hbt
  cases b
  · go_wp2
    go_ret
    exact ⟨rfl, Below.refl _ _⟩
  go_wp2_with (refine wpList_copy_row rfl (.tmp 35) (.tmp 36) 26 26 rfl 9 Try.underlying26 size9 w'.heap.size 0 n n (some x) n cap rfl rfl n 9 (RowAt.made _ _ ⟨_, rfl⟩ _ _) (hs.alloc _) ?_ w'.heap.size w' ((Below.refl _ _).alloc (Nat.le_refl _) _) (Nat.le_refl _) ?_)
  · simp
  intro w2 hr2 hb2 hk2 hs2
  clear hk2 hs2 hs hmk hne
  have hl2 := hr2.lt
  have q1 : ((n : Int) == 0) = false := beq_eq_false_iff_ne.2 (by omega)
  go_wp2_with fail
  refine (keyBytes_any _ _ _ _ (by omega) (hr2.src 0 n (by omega))).mono ?_
  rintro e w' ⟨t, rfl, rfl⟩
  go_wp2_with fail
  refine (zzAbsent_some _ _ _ _ _ _ (by omega) (by omega)).mono ?_
  rintro e w3 ⟨rfl, hbw3⟩
  replace hr2 := hr2.below hbw3 hl2
  have hl3 := hr2.lt
  go_wp2_with fail
  refine (keyBytes_any _ _ _ _ (by omega) (hr2.src 0 _ (by omega))).mono ?_
  rintro e w' ⟨t, rfl, rfl⟩
  go_wp2_with fail
  refine (zzAbsent_some _ _ _ _ _ _ (by omega) (by omega)).mono ?_
  rintro e w4 ⟨rfl, hbw4⟩
  replace hr2 := hr2.below hbw4 hl3
  go_wp2_with fail
  refine (keyBytes_any _ _ _ _ (by omega) (hr2.src _ _ (by omega))).mono ?_
  rintro e w' ⟨t, rfl, rfl⟩
  go_wp2_with fail
  refine (zzAbsent_none _ _ _ _ _).mono ?_
  rintro e w5 ⟨rfl, hbw5⟩
  go_wp2
  go_ret
  exact ⟨rfl, hb2.trans ((hbw3.trans ((hbw4.trans (hbw5.mono hbw4.size)).mono hbw3.size)).mono hb2.size)⟩

set_option maxRecDepth 100000 in
set_option maxHeartbeats 2000000 in
theorem absent_empty (nm : ByteArray) (x : Addr) (cap : Nat) (w : World) (hm : nm.size ≤ maxLen) (hs : Src w (some x) 0) :
    Calls Try.prog 5 #[.string nm, .slice (some x) 0 cap, .int .i64 0] w fun e w' => e = .returned (.bool true) ∧ Below w.heap.size w w' := by
  have hne := fun W : World => run_neq_slice_nil_any (P := Try.prog) W 26 9 (some x) 0 cap 0 0 Try.underlying26
  have hmk : ∀ W : World, (Instr.makeSlice 26 (.int .i64 0) (.int .i64 0)).run Try.prog W = .ok (.slice (some ⟨W.heap.size, 0, none⟩) 0 0) (W.alloc (.cells (madeCells #[.string ByteArray.empty] 0) 9)) :=
    run_make_row' (P := Try.prog) 26 9 (.string ByteArray.empty) 16 Try.underlying26 info9 rfl .i64 .i64 0 (by omega) (by omega)
  go_enter Try.func5, Try.ntmps5
  go_wp2_with fail
  refine (zzBytes12_any nm _ _ _ _ _ hm (by unfold maxLen; omega) hs).mono ?_
  rintro e w' ⟨b, rfl, hbt, rfl⟩
  clear hbt
  cases b
  · go_wp2
    go_ret
    exact ⟨rfl, Below.refl _ _⟩
  go_wp2_with fail
  refine (keyFits_any nm _ _ _ _ hm (by omega) hs).mono ?_
  rintro e w' ⟨b, rfl, hbt, rfl⟩
  clear hbt
  cases b
  · go_wp2
    go_ret
    exact ⟨rfl, Below.refl _ _⟩
  go_wp2_with (refine wpList_copy_row rfl (.tmp 35) (.tmp 36) 26 26 rfl 9 Try.underlying26 size9 w'.heap.size 0 0 0 (some x) 0 cap rfl rfl 0 9 (RowAt.made _ _ ⟨_, rfl⟩ _ _) (hs.alloc _) ?_ w'.heap.size w' ((Below.refl _ _).alloc (Nat.le_refl _) _) (Nat.le_refl _) ?_)
  · simp
  intro w2 hr2 hb2 hk2 hs2
  clear hk2 hs2 hs hmk hne
  have hl2 := hr2.lt
  go_wp2_with fail
  refine (keyBytes_any _ _ _ _ (by omega) (hr2.src 0 0 (by omega))).mono ?_
  rintro e w' ⟨t, rfl, rfl⟩
  go_wp2_with fail
  refine (zzAbsent_none _ _ _ _ _).mono ?_
  rintro e w3 ⟨rfl, hbw3⟩
  replace hr2 := hr2.below hbw3 hl2
  have hl3 := hr2.lt
  go_wp2_with fail
  refine (keyBytes_any _ _ _ _ (by omega) (hr2.src 0 _ (by omega))).mono ?_
  rintro e w' ⟨t, rfl, rfl⟩
  go_wp2_with fail
  refine (zzAbsent_none _ _ _ _ _).mono ?_
  rintro e w4 ⟨rfl, hbw4⟩
  replace hr2 := hr2.below hbw4 hl3
  go_wp2_with fail
  refine (keyBytes_any _ _ _ _ (by omega) (hr2.src _ _ (by omega))).mono ?_
  rintro e w' ⟨t, rfl, rfl⟩
  go_wp2_with fail
  refine (zzAbsent_none _ _ _ _ _).mono ?_
  rintro e w5 ⟨rfl, hbw5⟩
  go_wp2
  go_ret
  exact ⟨rfl, hb2.trans ((hbw3.trans ((hbw4.trans (hbw5.mono hbw4.size)).mono hbw3.size)).mono hb2.size)⟩

set_option maxRecDepth 100000 in
set_option maxHeartbeats 1000000 in
theorem absent_out (nm : ByteArray) (a : Option Addr) (n cap : Nat) (i : Int) (w : World) (hm : nm.size ≤ maxLen) (hn : n ≤ 1048576) (hs : Src w a n) (hi : i < 0 ∨ (n : Int) < i) :
    Calls Try.prog 5 #[.string nm, .slice a n cap, .int .i64 i] w fun e w' => e = .returned (.bool true) ∧ Below w.heap.size w w' := by
  go_enter Try.func5, Try.ntmps5
  go_wp2_with fail
  refine (zzBytes12_any nm _ _ _ _ _ hm (by unfold maxLen; omega) hs).mono ?_
  rintro e w' ⟨b, rfl, hbt, rfl⟩
  clear hbt
  cases b
  · go_wp2
    go_ret
    exact ⟨rfl, Below.refl _ _⟩
  go_wp2_with fail
  refine (keyFits_any nm _ _ _ _ hm (by omega) hs).mono ?_
  rintro e w' ⟨b, rfl, hbt, rfl⟩
  clear hbt
  cases b
  · go_wp2
    go_ret
    exact ⟨rfl, Below.refl _ _⟩
  rcases hi with hi | hi
  · go_wp2
    go_ret
    exact ⟨rfl, Below.refl _ _⟩
  · have h0 : ¬ i < 0 := by omega
    go_wp2
    go_ret
    exact ⟨rfl, Below.refl _ _⟩

set_option maxRecDepth 100000 in
set_option maxHeartbeats 1000000 in
theorem absent_long (nm : ByteArray) (a : Option Addr) (n cap : Nat) (i : Int) (w : World) (hm : nm.size ≤ maxLen) (hn : n ≤ maxLen) (h : 1048576 < n) (hs : Src w a n) :
    Calls Try.prog 5 #[.string nm, .slice a n cap, .int .i64 i] w fun e w' => e = .returned (.bool true) ∧ Below w.heap.size w w' := by
  go_enter Try.func5, Try.ntmps5
  go_wp2_with fail
  refine (zzBytes12_any nm _ _ _ _ _ hm hn hs).mono ?_
  rintro e w' ⟨b, rfl, hbt, rfl⟩
  cases b
  · go_wp2
    go_ret
    exact ⟨rfl, Below.refl _ _⟩
  · exact absurd (hbt rfl) (by omega)

end Go.Proofs.Qxb6614160a
