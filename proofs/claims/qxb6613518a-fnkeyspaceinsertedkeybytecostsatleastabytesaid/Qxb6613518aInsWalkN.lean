/-
  THE WALK OF 'FnKeySpaceInsertedKeyByteCostsAtLeastAByte' (function 6): a nil key; a place outside; too long.
-/
import Derived.WalkSpells
import Derived.Test.Qxb6613518aStep
import Derived.Test.Qxb6613518aInsPlain
namespace Go.Proofs.Qxb6613518a
open Go.RowKit

set_option maxRecDepth 100000 in
set_option maxHeartbeats 2000000 in
theorem ins_nn (c rev created number lease : Int) (w : World) (h1 : Is64 rev) (h2 : Is64 created) (h3 : Is64 number) (h4 : Is64 lease) :
    Calls Try.prog 6 #[.slice none 0 0, .slice none 0 0, .int .i64 0, .int .u8 c, .int .i64 rev, .int .i64 created, .int .i64 number, .int .i64 lease] w fun e w' => e = .returned (.bool true) ∧ Below w.heap.size w w' := by
  have hnx := fun W : World => run_neq_slice_nil_any (P := Try.prog) W 22 5 none 0 0 0 0 Try.underlying22
  have hny := True.intro
  have hml : ∀ W : World, (Instr.makeSlice 22 (.int .i64 1) (.int .i64 1)).run Try.prog W = .ok (.slice (some ⟨W.heap.size, 0, none⟩) 1 1) (W.alloc (.cells (madeCells #[.int .u8 0] 1) 5)) :=
    run_make_row' (P := Try.prog) 22 5 (.int .u8 0) 1 Try.underlying22 info5k rfl .i64 .i64 1 (by omega) (by omega)
  go_enter Try.func6, Try.ntmps6
  go_wp2_with (first
    | (go_at_call 15; go_in) | (refine wpList_copy_row rfl (.tmp 77) (.tmp 80) 22 22 rfl 5 Try.underlying22 size5k w.heap.size 0 1 1 none 0 0 rfl rfl 1 5 (RowAt.made _ _ rfl _ _) (Src.zero _ _) ?_ w.heap.size w (Below.alloc (Below.refl w.heap.size w) (by omega) _) (by omega) ?_))
  · rw [Nat.zero_add]; exact Nat.min_le_right _ _
  intro w4 hr4 hb4 hk4 hs4
  clear hk4 hs4 hml
  obtain ⟨u, hc, _⟩ := hr4.cell (j := 0) (by omega)
  have hf := hr4.frozen 0
  have hR : RowAt (w4.setCell ⟨w.heap.size, 0, none⟩ (.int .u8 c)).drew w.heap.size 1 5 := hr4.setCell 0 (.int .u8 c) rfl
  have hB : Below w.heap.size w (w4.setCell ⟨w.heap.size, 0, none⟩ (.int .u8 c)).drew := (hb4.setCell (p := ⟨w.heap.size, 0, none⟩) (by show w.heap.size ≤ w.heap.size; omega) (.int .u8 c)).drew
  have hle : w.heap.size ≤ w.heap.size := by omega
  clear hr4 hb4
  go_wp2
  have hw1 : IntKind.i64.wrap 1 = 1 := by rw [IntKind.wrap_i64]; omega
  go_region_law (refine step_copy_row rfl (.tmp 89) (.tmp 92) 22 22 rfl 5 Try.underlying22 size5k w.heap.size 0 0 0 none 0 0 (by simp [Act.eval, Act.put]) (by simp [Act.eval, Act.put]) 1 5 hR (Src.zero _ _) (by simp) w.heap.size w hB hle ?_; intro w5 hr5 hb5 hk5 hs5)
  clear hk5 hs5 hr5 hR hB hw1 hc hf
  obtain ⟨M, M', e1, e2, e3, e4, e5, e6⟩ := rec_step 0 0 rev created number lease (by omega) h1 h2 h3 h4
  have E1 : Hid (recI (0 : Nat) (0 : Nat) rev created number lease + 13 = (M : Int)) := e1
  have E2 : Hid ((recI (0 : Nat) (0 : Nat) rev created number lease).toNat + 13 = M) := e2
  have E3 : Hid ((recI (0 + 1 : Nat) (0 : Nat) rev created number lease).toNat + 13 = M') := e3
  clear e1 e2 e3
  go_wp2_with fail
  refine (keyRecordOwn_any 0 0 rev created number lease _ (by omega) h1 h2 h3 h4).mono ?_
  rintro e w6 ⟨rfl, rfl⟩
  rw [E1.out]
  go_wp2_with fail
  refine (zzKeySpace_any _ _ 0 _ 0 _ rev created number lease _ (by omega) h1 h2 h3 h4).mono ?_
  rintro e w7 ⟨rfl, hb7⟩
  rw [E2.out]
  go_wp2_with fail
  refine (zzKeySpace_any _ _ (0 + 1) _ 0 _ rev created number lease _ (by omega) h1 h2 h3 h4).mono ?_
  rintro e w8 ⟨rfl, hb8⟩
  rw [E3.out]
  go_wp2_with fail
  refine (spaceOf_any M _ e4).mono ?_
  rintro e w9 ⟨rfl, rfl⟩
  obtain ⟨s, hs⟩ : ∃ s, s = spaceN M := ⟨_, rfl⟩
  obtain ⟨s', hs'⟩ : ∃ s', s' = spaceN M' := ⟨_, rfl⟩
  rw [← hs, ← hs'] at e5
  rw [← hs'] at e6
  rw [← hs, ← hs']
  clear hs hs' E1 E2 E3
  go_wp2
  go_ret
  exact ⟨ret_true (decide_eq_true (by omega)), hb5.trans ((hb7.trans (hb8.mono hb7.size)).mono hb5.size)⟩

set_option maxRecDepth 100000 in
set_option maxHeartbeats 2000000 in
theorem ins_nv (y : Addr) (vl vc : Nat) (c rev created number lease : Int) (w : World) (h1 : Is64 rev) (h2 : Is64 created) (h3 : Is64 number) (h4 : Is64 lease) (hk : 0 + vl ≤ 1048576) (hsy : Src w (some y) vl) :
    Calls Try.prog 6 #[.slice none 0 0, .slice (some y) vl vc, .int .i64 0, .int .u8 c, .int .i64 rev, .int .i64 created, .int .i64 number, .int .i64 lease] w fun e w' => e = .returned (.bool true) ∧ Below w.heap.size w w' := by
  have hnx := fun W : World => run_neq_slice_nil_any (P := Try.prog) W 22 5 none 0 0 0 0 Try.underlying22
  have hny := fun W : World => run_neq_slice_nil_any (P := Try.prog) W 22 5 (some y) vl vc 0 0 Try.underlying22
  have hmy := run_make_row' (P := Try.prog) 22 5 (.int .u8 0) 1 Try.underlying22 info5k rfl .i64 .i64 vl (by omega) (by omega)
  have hml : ∀ W : World, (Instr.makeSlice 22 (.int .i64 1) (.int .i64 1)).run Try.prog W = .ok (.slice (some ⟨W.heap.size, 0, none⟩) 1 1) (W.alloc (.cells (madeCells #[.int .u8 0] 1) 5)) :=
    run_make_row' (P := Try.prog) 22 5 (.int .u8 0) 1 Try.underlying22 info5k rfl .i64 .i64 1 (by omega) (by omega)
  go_enter Try.func6, Try.ntmps6
  go_wp2_with (first
    | (go_at_call 15; go_in) | (refine wpList_copy_row rfl (.tmp 69) (.tmp 70) 22 22 rfl 5 Try.underlying22 size5k w.heap.size 0 vl vl (some y) vl vc rfl rfl vl 5 (RowAt.made _ _ rfl _ _) (hsy.alloc _) ?_ w.heap.size w (Below.alloc (Below.refl w.heap.size w) (by omega) _) (by omega) ?_))
  · simp
  intro w3 hr3 hb3 hk3 hs3
  have hl3 := hr3.lt
  clear hk3 hs3 hsy hmy hny
  go_wp2_with (first
    | (refine wpList_copy_row rfl (.tmp 77) (.tmp 80) 22 22 rfl 5 Try.underlying22 size5k w3.heap.size 0 1 1 none 0 0 rfl rfl 1 5 (RowAt.made _ _ rfl _ _) (Src.zero _ _) ?_ w.heap.size w (Below.alloc hb3 (by omega) _) (by omega) ?_))
  · rw [Nat.zero_add]; exact Nat.min_le_right _ _
  intro w4 hr4 hb4 hk4 hs4
  clear hk4 hs4 hml
  obtain ⟨u, hc, _⟩ := hr4.cell (j := 0) (by omega)
  have hf := hr4.frozen 0
  have hR : RowAt (w4.setCell ⟨w3.heap.size, 0, none⟩ (.int .u8 c)).drew w3.heap.size 1 5 := hr4.setCell 0 (.int .u8 c) rfl
  have hB : Below w.heap.size w (w4.setCell ⟨w3.heap.size, 0, none⟩ (.int .u8 c)).drew := (hb4.setCell (p := ⟨w3.heap.size, 0, none⟩) (by show w.heap.size ≤ w3.heap.size; omega) (.int .u8 c)).drew
  have hle : w.heap.size ≤ w3.heap.size := by omega
  clear hr4 hb4
  go_wp2
  have hw1 : IntKind.i64.wrap 1 = 1 := by rw [IntKind.wrap_i64]; omega
  go_region_law (refine step_copy_row rfl (.tmp 89) (.tmp 92) 22 22 rfl 5 Try.underlying22 size5k w3.heap.size 0 0 0 none 0 0 (by simp [Act.eval, Act.put]) (by simp [Act.eval, Act.put]) 1 5 hR (Src.zero _ _) (by simp) w.heap.size w hB hle ?_; intro w5 hr5 hb5 hk5 hs5)
  clear hk5 hs5 hr5 hR hB hw1 hc hf
  obtain ⟨M, M', e1, e2, e3, e4, e5, e6⟩ := rec_step 0 vl rev created number lease (by omega) h1 h2 h3 h4
  have E1 : Hid (recI (0 : Nat) (vl : Nat) rev created number lease + 13 = (M : Int)) := e1
  have E2 : Hid ((recI (0 : Nat) (vl : Nat) rev created number lease).toNat + 13 = M) := e2
  have E3 : Hid ((recI (0 + 1 : Nat) (vl : Nat) rev created number lease).toNat + 13 = M') := e3
  clear e1 e2 e3
  go_wp2_with fail
  refine (keyRecordOwn_any 0 vl rev created number lease _ (by omega) h1 h2 h3 h4).mono ?_
  rintro e w6 ⟨rfl, rfl⟩
  rw [E1.out]
  go_wp2_with fail
  refine (zzKeySpace_any _ _ 0 _ vl _ rev created number lease _ (by omega) h1 h2 h3 h4).mono ?_
  rintro e w7 ⟨rfl, hb7⟩
  rw [E2.out]
  go_wp2_with fail
  refine (zzKeySpace_any _ _ (0 + 1) _ vl _ rev created number lease _ (by omega) h1 h2 h3 h4).mono ?_
  rintro e w8 ⟨rfl, hb8⟩
  rw [E3.out]
  go_wp2_with fail
  refine (spaceOf_any M _ e4).mono ?_
  rintro e w9 ⟨rfl, rfl⟩
  obtain ⟨s, hs⟩ : ∃ s, s = spaceN M := ⟨_, rfl⟩
  obtain ⟨s', hs'⟩ : ∃ s', s' = spaceN M' := ⟨_, rfl⟩
  rw [← hs, ← hs'] at e5
  rw [← hs'] at e6
  rw [← hs, ← hs']
  clear hs hs' E1 E2 E3
  go_wp2
  go_ret
  exact ⟨ret_true (decide_eq_true (by omega)), hb5.trans ((hb7.trans (hb8.mono hb7.size)).mono hb5.size)⟩

set_option maxRecDepth 100000 in
set_option maxHeartbeats 1000000 in
theorem ins_long (ka va : Option Addr) (kl kc vl vc : Nat) (i c rev created number lease : Int) (w : World) (hk : 1048576 < kl + vl) (hm : kl ≤ maxLen) (hv : vl ≤ maxLen) :
    Calls Try.prog 6 #[.slice ka kl kc, .slice va vl vc, .int .i64 i, .int .u8 c, .int .i64 rev, .int .i64 created, .int .i64 number, .int .i64 lease] w fun e w' => e = .returned (.bool true) ∧ Below w.heap.size w w' := by
  unfold maxLen at hm hv
  by_cases c1 : 1048576 < kl
  · go_enter Try.func6, Try.ntmps6
    go_wp2
    go_ret
    exact ⟨rfl, Below.refl _ _⟩
  · by_cases c2 : 1048576 < vl
    · go_enter Try.func6, Try.ntmps6
      go_wp2
      go_ret
      exact ⟨rfl, Below.refl _ _⟩
    · go_enter Try.func6, Try.ntmps6
      go_wp2
      go_ret
      exact ⟨rfl, Below.refl _ _⟩

set_option maxRecDepth 100000 in
set_option maxHeartbeats 1000000 in
theorem ins_out (ka va : Option Addr) (kl kc vl vc : Nat) (i c rev created number lease : Int) (w : World) (hk : kl + vl ≤ 1048576) (hi : i < 0 ∨ (kl : Int) < i) :
    Calls Try.prog 6 #[.slice ka kl kc, .slice va vl vc, .int .i64 i, .int .u8 c, .int .i64 rev, .int .i64 created, .int .i64 number, .int .i64 lease] w fun e w' => e = .returned (.bool true) ∧ Below w.heap.size w w' := by
  have c1 : kl ≤ 1048576 := by omega
  have c2 : vl ≤ 1048576 := by omega
  rcases hi with hi | hi
  · go_enter Try.func6, Try.ntmps6
    go_wp2
    go_ret
    exact ⟨rfl, Below.refl _ _⟩
  · have h0 : ¬ i < 0 := by omega
    go_enter Try.func6, Try.ntmps6
    go_wp2
    go_ret
    exact ⟨rfl, Below.refl _ _⟩

end Go.Proofs.Qxb6613518a
