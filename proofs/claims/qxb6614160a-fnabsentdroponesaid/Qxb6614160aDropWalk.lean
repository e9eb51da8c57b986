/-
  THE WALK OF 'FnAbsentDropOne' (function 6).
-/
import Derived.Test.Qxb6614160aKeys
import Derived.WalkSpells
namespace Go.Proofs.Qxb6614160a
open Go.RowKit

theorem info9d : (Try.prog.info? 9).map (fun i => (i.zero, i.size, i.bytes)) = some (some (.string ByteArray.empty), 1, 16) := by kernel_rfl
theorem size9d : (Try.prog.info? 9).map (·.size) = some 1 := by kernel_rfl

theorem RowAt.other {w w' : World} {g g' N : Nat} {t : TypeId} (h : RowAt w g N t) (hk : ∀ k, k ≠ g' → w'.heap[k]? = w.heap[k]?) (hne : g ≠ g') : RowAt w' g N t := by
  obtain ⟨cs, hl, h1, hg⟩ := h
  exact ⟨cs, hl, h1, (hk g hne).trans hg⟩

/-- 'make([]string, 0, c)'. -/
theorem make_room (c : Nat) (hc : c ≤ 1048576) (W : World) :
    (Instr.makeSlice 26 (.int .i64 0) (.int .i64 (c : Int))).run Try.prog W = .ok (.slice (some ⟨W.heap.size, 0, none⟩) 0 c) (W.alloc (.cells (madeCells #[.string ByteArray.empty] c) 9)) := by
  obtain ⟨i, hi, hzz⟩ := Option.map_eq_some_iff.1 info9d
  simp only [Prod.mk.injEq] at hzz
  obtain ⟨hz, hs, hb⟩ := hzz
  have hr := run_make (P := Try.prog) W 26 9 i _ Try.underlying26 hi hz .i64 .i64 0 (c : Int) (by omega) (by omega) (by rw [hb]; omega) (by omega)
  rw [hs, Nat.mul_one, Int.toNat_natCast] at hr
  exact hr

set_option maxRecDepth 100000 in
set_option maxHeartbeats 2000000 in
theorem drop_nil (nm : ByteArray) (i : Int) (w : World) (hm : nm.size ≤ maxLen) :
    Calls Try.prog 6 #[.string nm, .slice none 0 0, .int .i64 i] w fun e w' => e = .returned (.bool true) ∧ Below w.heap.size w w' := by
  have hne := fun W : World => run_neq_slice_nil_any (P := Try.prog) W 26 9 none 0 0 0 0 Try.underlying26
  go_enter Try.func6, Try.ntmps6
  go_wp2_with fail
  refine (zzBytes16_any nm _ _ _ _ _ hm (by unfold maxLen; omega) (Src.zero _ _)).mono ?_
  rintro e w' ⟨b, rfl, hbt, rfl⟩
  clear hbt
  cases b
  · go_wp2
    go_ret
    exact ⟨rfl, Below.refl _ _⟩
  go_wp2_with fail
  refine (keyFits_any nm _ _ _ _ hm (by omega) (Src.zero _ _)).mono ?_
  rintro e w' ⟨b, rfl, hbt, rfl⟩
  clear hbt
  cases b
  · go_wp2
    go_ret
    exact ⟨rfl, Below.refl _ _⟩
  go_wp2_with fail
  refine (zzAbsent_none _ _ _ _ _).mono ?_
  rintro e w3 ⟨rfl, hbw3⟩
  go_wp2
  go_ret
  exact ⟨rfl, hbw3⟩

set_option maxRecDepth 100000 in
set_option maxHeartbeats 2000000 in
theorem drop_empty (nm : ByteArray) (x : Addr) (cap : Nat) (i : Int) (w : World) (hm : nm.size ≤ maxLen) :
    Calls Try.prog 6 #[.string nm, .slice (some x) 0 cap, .int .i64 i] w fun e w' => e = .returned (.bool true) ∧ Below w.heap.size w w' := by
  have hne := fun W : World => run_neq_slice_nil_any (P := Try.prog) W 26 9 (some x) 0 cap 0 0 Try.underlying26
  have hmk : ∀ W : World, (Instr.makeSlice 26 (.int .i64 0) (.int .i64 0)).run Try.prog W = .ok (.slice (some ⟨W.heap.size, 0, none⟩) 0 0) (W.alloc (.cells (madeCells #[.string ByteArray.empty] 0) 9)) :=
    run_make_row' (P := Try.prog) 26 9 (.string ByteArray.empty) 16 Try.underlying26 info9d rfl .i64 .i64 0 (by omega) (by omega)
  go_enter Try.func6, Try.ntmps6
  go_wp2_with fail
  refine (zzBytes16_any nm _ _ _ _ _ hm (by unfold maxLen; omega) (Src.zero _ _)).mono ?_
  rintro e w' ⟨b, rfl, hbt, rfl⟩
  clear hbt
  cases b
  · go_wp2
    go_ret
    exact ⟨rfl, Below.refl _ _⟩
  go_wp2_with fail
  refine (keyFits_any nm _ _ _ _ hm (by omega) (Src.zero _ _)).mono ?_
  rintro e w' ⟨b, rfl, hbt, rfl⟩
  clear hbt
  cases b
  · go_wp2
    go_ret
    exact ⟨rfl, Below.refl _ _⟩
  go_wp2_with (refine wpList_copy_row rfl (.tmp 23) (.tmp 24) 26 26 rfl 9 Try.underlying26 size9d w'.heap.size 0 0 0 (some x) 0 cap rfl rfl 0 9 (RowAt.made _ _ ⟨_, rfl⟩ _ _) (Src.zero _ _) ?_ w'.heap.size w' ((Below.refl _ _).alloc (Nat.le_refl _) _) (Nat.le_refl _) ?_)
  · simp
  intro w2 hr2 hb2 hk2 hs2
  clear hk2 hs2 hmk hne
  go_wp2_with fail
  refine (zzAbsent_none _ _ _ _ _).mono ?_
  rintro e w3 ⟨rfl, hbw3⟩
  go_wp2
  go_ret
  exact ⟨rfl, hb2.trans (hbw3.mono hb2.size)⟩

set_option maxRecDepth 100000 in
set_option maxHeartbeats 1000000 in
theorem drop_long (nm : ByteArray) (a : Option Addr) (n cap : Nat) (i : Int) (w : World) (hm : nm.size ≤ maxLen) (hn : n ≤ maxLen) (h : 1048576 < n) (hs : Src w a n) :
    Calls Try.prog 6 #[.string nm, .slice a n cap, .int .i64 i] w fun e w' => e = .returned (.bool true) ∧ Below w.heap.size w w' := by
  go_enter Try.func6, Try.ntmps6
  go_wp2_with fail
  refine (zzBytes16_any nm _ _ _ _ _ hm hn hs).mono ?_
  rintro e w' ⟨b, rfl, hbt, rfl⟩
  cases b
  · go_wp2
    go_ret
    exact ⟨rfl, Below.refl _ _⟩
  · exact absurd (hbt rfl) (by omega)

set_option maxRecDepth 100000 in
set_option maxHeartbeats 2000000 in
theorem drop_out (nm : ByteArray) (x : Addr) (n cap : Nat) (i : Int) (w : World) (hm : nm.size ≤ maxLen) (hn : n ≤ 1048576) (h0 : 0 < n) (hi : i < 0 ∨ (n : Int) ≤ i) (hs : Src w (some x) n) :
    Calls Try.prog 6 #[.string nm, .slice (some x) n cap, .int .i64 i] w fun e w' => e = .returned (.bool true) ∧ Below w.heap.size w w' := by
  have hne := fun W : World => run_neq_slice_nil_any (P := Try.prog) W 26 9 (some x) n cap 0 0 Try.underlying26
  have hmk := run_make_row' (P := Try.prog) 26 9 (.string ByteArray.empty) 16 Try.underlying26 info9d rfl .i64 .i64 n (by omega) (by omega)
  have hz : ((n : Int) == 0) = false := beq_eq_false_iff_ne.2 (by omega)
  go_enter Try.func6, Try.ntmps6
  go_wp2_with fail
  refine (zzBytes16_any nm _ _ _ _ _ hm (by unfold maxLen; omega) hs).mono ?_
  rintro e w' ⟨b, rfl, hbt, rfl⟩
  clear hbt
  cases b
  · go_wp2
    go_ret
    exact ⟨rfl, Below.refl _ _⟩
  go_wp2_with fail
  refine (keyFits_any nm _ _ _ _ hm (by omega) hs).mono ?_
  rintro e w' ⟨b, rfl, hbt, rfl⟩
  clear hbt
  cases b
  · go_wp2
    go_ret
    exact ⟨rfl, Below.refl _ _⟩
  go_wp2_with (refine wpList_copy_row rfl (.tmp 23) (.tmp 24) 26 26 rfl 9 Try.underlying26 size9d w'.heap.size 0 n n (some x) n cap rfl rfl n 9 (RowAt.made _ _ ⟨_, rfl⟩ _ _) (hs.alloc _) ?_ w'.heap.size w' ((Below.refl _ _).alloc (Nat.le_refl _) _) (Nat.le_refl _) ?_)
  · simp
  intro w2 hr2 hb2 hk2 hs2
  clear hk2 hs2 hs hmk hne
  have hl2 := hr2.lt
  rcases hi with hi | hi
  · go_wp2
    go_ret
    exact ⟨rfl, hb2⟩
  · have h1 : ¬ i < 0 := by omega
    go_wp2
    go_ret
    exact ⟨rfl, hb2⟩

set_option maxRecDepth 100000 in
set_option maxHeartbeats 2000000 in
theorem drop_mid (nm : ByteArray) (x : Addr) (n cap : Nat) (i : Nat) (w : World) (hm : nm.size ≤ maxLen) (hn : n ≤ 1048576) (h0 : 0 < n) (h2 : 2 ≤ n) (hi : i + 1 < n) (hs : Src w (some x) n) :
    Calls Try.prog 6 #[.string nm, .slice (some x) n cap, .int .i64 i] w fun e w' => e = .returned (.bool true) ∧ Below w.heap.size w w' := by
  have hne := fun W : World => run_neq_slice_nil_any (P := Try.prog) W 26 9 (some x) n cap 0 0 Try.underlying26
  have hmk := run_make_row' (P := Try.prog) 26 9 (.string ByteArray.empty) 16 Try.underlying26 info9d rfl .i64 .i64 n (by omega) (by omega)
  have hz : ((n : Int) == 0) = false := beq_eq_false_iff_ne.2 (by omega)
  go_enter Try.func6, Try.ntmps6
  go_wp2_with fail
  refine (zzBytes16_any nm _ _ _ _ _ hm (by unfold maxLen; omega) hs).mono ?_
  rintro e w' ⟨b, rfl, hbt, rfl⟩
  clear hbt
  cases b
  · go_wp2
    go_ret
    exact ⟨rfl, Below.refl _ _⟩
  go_wp2_with fail
  refine (keyFits_any nm _ _ _ _ hm (by omega) hs).mono ?_
  rintro e w' ⟨b, rfl, hbt, rfl⟩
  clear hbt
  cases b
  · go_wp2
    go_ret
    exact ⟨rfl, Below.refl _ _⟩
  go_wp2_with (refine wpList_copy_row rfl (.tmp 23) (.tmp 24) 26 26 rfl 9 Try.underlying26 size9d w'.heap.size 0 n n (some x) n cap rfl rfl n 9 (RowAt.made _ _ ⟨_, rfl⟩ _ _) (hs.alloc _) ?_ w'.heap.size w' ((Below.refl _ _).alloc (Nat.le_refl _) _) (Nat.le_refl _) ?_)
  · simp
  intro w2 hr2 hb2 hk2 hs2
  clear hk2 hs2 hs hmk hne
  have hl2 := hr2.lt
  have hmr := make_room (n - 1) (by omega)
  rw [show ((n - 1 : Nat) : Int) = (n : Int) - 1 by omega] at hmr
  go_wp2_with (refine wpList_append_row rfl (.tmp 45) (.tmp 48) 26 rfl 9 Try.underlying26 size9d w2.heap.size 0 (n - 1) ⟨w'.heap.size, 0, none⟩ i n rfl rfl (n - 1) 9 (RowAt.made _ _ ⟨_, rfl⟩ _ _) ((hr2.alloc _).src 0 i (by omega)) (by omega) (by omega) w'.heap.size w' (hb2.alloc (by omega) _) (by omega) ?_)
  intro w3 hr3 hb3 hk3 hs3
  replace hr2 := RowAt.other (hr2.alloc _) hk3 (by omega)
  clear hk3 hs3 hmr
  go_wp2_with (refine wpList_append_row rfl (.tmp 50) (.tmp 54) 26 rfl 9 Try.underlying26 size9d w2.heap.size i (n - 1) ⟨w'.heap.size, i + 1, none⟩ (n - (i + 1)) (n - (i + 1)) rfl rfl (n - 1) 9 hr3 (hr2.src (i + 1) (n - (i + 1)) (by omega)) (by omega) (by omega) w'.heap.size w' hb3 (by omega) ?_)
  intro w4 hr4 hb4 hk4 hs4
  replace hr2 := RowAt.other hr2 hk4 (by omega)
  clear hk4 hs4 hr3 hb3
  have hl4 := hr4.lt
  have q1 : ((n : Int) == 1) = false := beq_eq_false_iff_ne.2 (by omega)
  go_wp2_with fail
  refine (keyBytes_any _ _ _ _ (by omega) (hr2.src 0 n (by omega))).mono ?_
  rintro e w' ⟨t, rfl, rfl⟩
  go_wp2_with fail
  refine (zzAbsent_some _ _ _ _ _ _ (by omega) (by omega)).mono ?_
  rintro e w5 ⟨rfl, hbw5⟩
  replace hr4 := hr4.below hbw5 hl4
  go_wp2_with fail
  refine (keyBytes_any _ _ _ _ (by omega) (hr4.src 0 _ (by omega))).mono ?_
  rintro e w' ⟨t, rfl, rfl⟩
  go_wp2_with fail
  refine (zzAbsent_some _ _ _ _ _ _ (by omega) (by omega)).mono ?_
  rintro e w6 ⟨rfl, hbw6⟩
  go_wp2
  go_ret
  exact ⟨rfl, hb4.trans ((hbw5.trans (hbw6.mono hbw5.size)).mono hb4.size)⟩

set_option maxRecDepth 100000 in
set_option maxHeartbeats 2000000 in
theorem drop_last (nm : ByteArray) (x : Addr) (i cap : Nat) (w : World) (hm : nm.size ≤ maxLen) (hn : i + 1 ≤ 1048576) (hi : 0 < i) (hs : Src w (some x) (i + 1)) :
    Calls Try.prog 6 #[.string nm, .slice (some x) (i + 1) cap, .int .i64 i] w fun e w' => e = .returned (.bool true) ∧ Below w.heap.size w w' := by
  have hne := fun W : World => run_neq_slice_nil_any (P := Try.prog) W 26 9 (some x) (i + 1) cap 0 0 Try.underlying26
  have hmk := run_make_row' (P := Try.prog) 26 9 (.string ByteArray.empty) 16 Try.underlying26 info9d rfl .i64 .i64 (i + 1) (by omega) (by omega)
  rw [show ((i + 1 : Nat) : Int) = (i : Int) + 1 by omega] at hmk
  have hz : ((i : Int) + 1 == 0) = false := beq_eq_false_iff_ne.2 (by omega)
  go_enter Try.func6, Try.ntmps6
  go_wp2_with fail
  refine (zzBytes16_any nm _ _ _ _ _ hm (by unfold maxLen; omega) hs).mono ?_
  rintro e w' ⟨b, rfl, hbt, rfl⟩
  clear hbt
  cases b
  · go_wp2
    go_ret
    exact ⟨rfl, Below.refl _ _⟩
  go_wp2_with fail
  refine (keyFits_any nm _ _ _ _ hm (by omega) hs).mono ?_
  rintro e w' ⟨b, rfl, hbt, rfl⟩
  clear hbt
  cases b
  · go_wp2
    go_ret
    exact ⟨rfl, Below.refl _ _⟩
  go_wp2_with (refine wpList_copy_row rfl (.tmp 23) (.tmp 24) 26 26 rfl 9 Try.underlying26 size9d w'.heap.size 0 (i + 1) (i + 1) (some x) (i + 1) cap rfl rfl (i + 1) 9 (RowAt.made _ _ ⟨_, rfl⟩ _ _) (hs.alloc _) ?_ w'.heap.size w' ((Below.refl _ _).alloc (Nat.le_refl _) _) (Nat.le_refl _) ?_)
  · simp
  intro w2 hr2 hb2 hk2 hs2
  clear hk2 hs2 hs hmk hne
  have hl2 := hr2.lt
  have hmr := make_room i (by omega)
  have hmr1 : ∀ W : World, (Instr.makeSlice 26 (.int .i64 0) (.int .i64 ((i : Int) + 1 - 1))).run Try.prog W = .ok (.slice (some ⟨W.heap.size, 0, none⟩) 0 i) (W.alloc (.cells (madeCells #[.string ByteArray.empty] i) 9)) := by
    intro W
    rw [show (i : Int) + 1 - 1 = (i : Int) by omega]
    exact hmr W
  go_wp2_with (refine wpList_append_row rfl (.tmp 45) (.tmp 48) 26 rfl 9 Try.underlying26 size9d w2.heap.size 0 i ⟨w'.heap.size, 0, none⟩ i (i + 1) rfl rfl i 9 (RowAt.made _ _ ⟨_, rfl⟩ _ _) ((hr2.alloc _).src 0 i (by omega)) (by omega) (by omega) w'.heap.size w' (hb2.alloc (by omega) _) (by omega) ?_)
  intro w3 hr3 hb3 hk3 hs3
  replace hr2 := RowAt.other (hr2.alloc _) hk3 (by omega)
  clear hk3 hs3 hmr hmr1
  go_wp2_with (refine wpList_append_row rfl (.tmp 50) (.tmp 54) 26 rfl 9 Try.underlying26 size9d w2.heap.size i i ⟨w'.heap.size, 0, none⟩ 0 0 rfl rfl i 9 hr3 (Src.zero _ _) (by omega) (by omega) w'.heap.size w' hb3 (by omega) ?_)
  intro w4 hr4 hb4 hk4 hs4
  replace hr2 := RowAt.other hr2 hk4 (by omega)
  clear hk4 hs4 hr3 hb3
  have hl4 := hr4.lt
  have q1 : ((i : Int) + 1 == 1) = false := beq_eq_false_iff_ne.2 (by omega)
  go_wp2_with fail
  refine (keyBytes_any _ _ _ _ (by omega) (hr2.src 0 (i + 1) (by omega))).mono ?_
  rintro e w' ⟨t, rfl, rfl⟩
  go_wp2_with fail
  refine (zzAbsent_some _ _ _ _ _ _ (by omega) (by omega)).mono ?_
  rintro e w5 ⟨rfl, hbw5⟩
  replace hr4 := hr4.below hbw5 hl4
  go_wp2_with fail
  refine (keyBytes_any _ _ _ _ (by omega) (hr4.src 0 _ (by omega))).mono ?_
  rintro e w' ⟨t, rfl, rfl⟩
  go_wp2_with fail
  refine (zzAbsent_some _ _ _ _ _ _ (by omega) (by omega)).mono ?_
  rintro e w6 ⟨rfl, hbw6⟩
  go_wp2
  go_ret
  exact ⟨rfl, hb4.trans ((hbw5.trans (hbw6.mono hbw5.size)).mono hb4.size)⟩

set_option maxRecDepth 100000 in
set_option maxHeartbeats 2000000 in
theorem drop_one (nm : ByteArray) (x : Addr) (cap : Nat) (w : World) (hm : nm.size ≤ maxLen) (hs : Src w (some x) 1) :
    Calls Try.prog 6 #[.string nm, .slice (some x) 1 cap, .int .i64 0] w fun e w' => e = .returned (.bool true) ∧ Below w.heap.size w w' := by
  have hne := fun W : World => run_neq_slice_nil_any (P := Try.prog) W 26 9 (some x) 1 cap 0 0 Try.underlying26
  have hmk : ∀ W : World, (Instr.makeSlice 26 (.int .i64 1) (.int .i64 1)).run Try.prog W = .ok (.slice (some ⟨W.heap.size, 0, none⟩) 1 1) (W.alloc (.cells (madeCells #[.string ByteArray.empty] 1) 9)) :=
    run_make_row' (P := Try.prog) 26 9 (.string ByteArray.empty) 16 Try.underlying26 info9d rfl .i64 .i64 1 (by omega) (by omega)
  go_enter Try.func6, Try.ntmps6
  go_wp2_with fail
  refine (zzBytes16_any nm _ _ _ _ _ hm (by unfold maxLen; omega) hs).mono ?_
  rintro e w' ⟨b, rfl, hbt, rfl⟩
  clear hbt
  cases b
  · go_wp2
    go_ret
    exact ⟨rfl, Below.refl _ _⟩
  go_wp2_with fail
  refine (keyFits_any nm _ _ _ _ hm (by omega) hs).mono ?_
  rintro e w' ⟨b, rfl, hbt, rfl⟩
  clear hbt
  cases b
  · go_wp2
    go_ret
    exact ⟨rfl, Below.refl _ _⟩
  go_wp2_with (refine wpList_copy_row rfl (.tmp 23) (.tmp 24) 26 26 rfl 9 Try.underlying26 size9d w'.heap.size 0 1 1 (some x) 1 cap rfl rfl 1 9 (RowAt.made _ _ ⟨_, rfl⟩ _ _) (hs.alloc _) ?_ w'.heap.size w' ((Below.refl _ _).alloc (Nat.le_refl _) _) (Nat.le_refl _) ?_)
  · simp
  intro w2 hr2 hb2 hk2 hs2
  clear hk2 hs2 hs hmk hne
  have hl2 := hr2.lt
  have hmr : ∀ W : World, (Instr.makeSlice 26 (.int .i64 0) (.int .i64 0)).run Try.prog W = .ok (.slice (some ⟨W.heap.size, 0, none⟩) 0 0) (W.alloc (.cells (madeCells #[.string ByteArray.empty] 0) 9)) := make_room 0 (by omega)
  go_wp2_with (refine wpList_append_row rfl (.tmp 45) (.tmp 48) 26 rfl 9 Try.underlying26 size9d w2.heap.size 0 0 ⟨w'.heap.size, 0, none⟩ 0 1 rfl rfl 0 9 (RowAt.made _ _ ⟨_, rfl⟩ _ _) (Src.zero _ _) (by omega) (by omega) w'.heap.size w' (hb2.alloc (by omega) _) (by omega) ?_)
  intro w3 hr3 hb3 hk3 hs3
  replace hr2 := RowAt.other (hr2.alloc _) hk3 (by omega)
  clear hk3 hs3 hmr
  go_wp2_with (refine wpList_append_row rfl (.tmp 50) (.tmp 54) 26 rfl 9 Try.underlying26 size9d w2.heap.size 0 0 ⟨w'.heap.size, 0, none⟩ 0 0 rfl rfl 0 9 hr3 (Src.zero _ _) (by omega) (by omega) w'.heap.size w' hb3 (by omega) ?_)
  intro w4 hr4 hb4 hk4 hs4
  replace hr2 := RowAt.other hr2 hk4 (by omega)
  clear hk4 hs4 hr3 hb3
  have hl4 := hr4.lt
  go_wp2_with fail
  refine (keyBytes_any _ _ _ _ (by omega) (hr2.src 0 1 (by omega))).mono ?_
  rintro e w' ⟨t, rfl, rfl⟩
  go_wp2_with fail
  refine (zzAbsent_some _ _ _ _ _ _ (by omega) (by omega)).mono ?_
  rintro e w5 ⟨rfl, hbw5⟩
  replace hr4 := hr4.below hbw5 hl4
  go_wp2_with fail
  refine (keyBytes_any _ _ _ _ (by omega) (hr4.src 0 _ (by omega))).mono ?_
  rintro e w' ⟨t, rfl, rfl⟩
  go_wp2_with fail
  refine (zzAbsent_none _ _ _ _ _).mono ?_
  rintro e w6 ⟨rfl, hbw6⟩
  go_wp2
  go_ret
  exact ⟨rfl, hb4.trans ((hbw5.trans (hbw6.mono hbw5.size)).mono hb4.size)⟩

end Go.Proofs.Qxb6614160a
