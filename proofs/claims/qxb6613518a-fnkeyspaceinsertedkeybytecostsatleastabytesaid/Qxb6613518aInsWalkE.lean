/-
  THE WALK OF 'FnKeySpaceInsertedKeyByteCostsAtLeastAByte' (function 6): the byte put in behind the key.
-/
import Derived.WalkSpells
import Derived.Test.Qxb6613518aStep
import Derived.Test.Qxb6613518aInsPlain
namespace Go.Proofs.Qxb6613518a
open Go.RowKit

set_option maxRecDepth 100000 in
set_option maxHeartbeats 2000000 in
theorem ins_en (x : Addr) (kl kc : Nat) (c rev created number lease : Int) (w : World) (h1 : Is64 rev) (h2 : Is64 created) (h3 : Is64 number) (h4 : Is64 lease) (hk : kl + 0 ≤ 1048576) (hsx : Src w (some x) kl) :
    Calls Try.prog 6 #[.slice (some x) kl kc, .slice none 0 0, .int .i64 kl, .int .u8 c, .int .i64 rev, .int .i64 created, .int .i64 number, .int .i64 lease] w fun e w' => e = .returned (.bool true) ∧ Below w.heap.size w w' := by
  have hnx := fun W : World => run_neq_slice_nil_any (P := Try.prog) W 22 5 (some x) kl kc 0 0 Try.underlying22
  have hny := fun W : World => run_neq_slice_nil_any (P := Try.prog) W 22 5 none 0 0 0 0 Try.underlying22
  have hmx := run_make_row' (P := Try.prog) 22 5 (.int .u8 0) 1 Try.underlying22 info5k rfl .i64 .i64 kl (by omega) (by omega)
  have hml := run_make_row' (P := Try.prog) 22 5 (.int .u8 0) 1 Try.underlying22 info5k rfl .i64 .i64 (kl + 1) (by omega) (by omega)
  rw [show ((kl + 1 : Nat) : Int) = (kl : Int) + 1 by omega] at hml
  go_enter Try.func6, Try.ntmps6
  go_wp2_with (first
    | (go_at_call 15; go_in) | (refine wpList_copy_row rfl (.tmp 60) (.tmp 61) 22 22 rfl 5 Try.underlying22 size5k w.heap.size 0 kl kl (some x) kl kc rfl rfl kl 5 (RowAt.made _ _ rfl _ _) (hsx.alloc _) ?_ w.heap.size w ((Below.refl _ _).alloc (Nat.le_refl _) _) (Nat.le_refl _) ?_))
  · simp
  intro w2 hr2 hb2 hk2 hs2
  clear hk2 hs2 hsx hmx hnx
  have hl2 := hr2.lt
  go_wp2_with (first
    | (refine wpList_copy_row rfl (.tmp 77) (.tmp 80) 22 22 rfl 5 Try.underlying22 size5k w2.heap.size 0 (kl + 1) (kl + 1) (some ⟨w.heap.size, 0, none⟩) kl kl rfl rfl (kl + 1) 5 (RowAt.made _ _ rfl _ _) ((hr2.alloc _).src 0 kl (by omega)) ?_ w.heap.size w (Below.alloc hb2 (by omega) _) (by omega) ?_))
  · rw [Nat.zero_add]; exact Nat.min_le_right _ _
  intro w4 hr4 hb4 hk4 hs4
  replace hr2 := (hr2.alloc _).other hk4 (by omega)
  clear hk4 hs4 hml
  obtain ⟨u, hc, _⟩ := hr4.cell (j := kl) (by omega)
  have hf := hr4.frozen kl
  have hR : RowAt (w4.setCell ⟨w2.heap.size, kl, none⟩ (.int .u8 c)).drew w2.heap.size (kl + 1) 5 := hr4.setCell kl (.int .u8 c) rfl
  have hB : Below w.heap.size w (w4.setCell ⟨w2.heap.size, kl, none⟩ (.int .u8 c)).drew := (hb4.setCell (p := ⟨w2.heap.size, kl, none⟩) (by show w.heap.size ≤ w2.heap.size; omega) (.int .u8 c)).drew
  have hle : w.heap.size ≤ w2.heap.size := by omega
  clear hr4 hb4 hr2
  go_wp2
  have hw1 : IntKind.i64.wrap ((kl : Int) + 1) = (kl : Int) + 1 := by rw [IntKind.wrap_i64]; omega
  have q1 : (0 : Int) ≤ (kl : Int) + 1 := by omega
  have q4 : (0 : Int) ≤ (kl : Int) := by omega
  go_region_law (refine step_copy_row rfl (.tmp 89) (.tmp 92) 22 22 rfl 5 Try.underlying22 size5k w2.heap.size 0 0 0 (some ⟨w.heap.size, 0, none⟩) 0 0 (by simp [Act.eval, Act.put]) (by simp [Act.eval, Act.put]) (kl + 1) 5 hR (Src.zero _ _) (by simp) w.heap.size w hB hle ?_; intro w5 hr5 hb5 hk5 hs5)
  clear hk5 hs5 hr5 hR hB hw1 q1 q4 hc hf
  obtain ⟨M, M', e1, e2, e3, e4, e5, e6⟩ := rec_step kl 0 rev created number lease (by omega) h1 h2 h3 h4
  have E1 : Hid (recI (kl : Nat) (0 : Nat) rev created number lease + 13 = (M : Int)) := e1
  have E2 : Hid ((recI (kl : Nat) (0 : Nat) rev created number lease).toNat + 13 = M) := e2
  have E3 : Hid ((recI (kl + 1 : Nat) (0 : Nat) rev created number lease).toNat + 13 = M') := e3
  clear e1 e2 e3
  go_wp2_with fail
  refine (keyRecordOwn_any kl 0 rev created number lease _ (by omega) h1 h2 h3 h4).mono ?_
  rintro e w6 ⟨rfl, rfl⟩
  rw [E1.out]
  go_wp2_with fail
  refine (zzKeySpace_any _ _ kl _ 0 _ rev created number lease _ (by omega) h1 h2 h3 h4).mono ?_
  rintro e w7 ⟨rfl, hb7⟩
  rw [E2.out]
  go_wp2_with fail
  refine (zzKeySpace_any _ _ (kl + 1) _ 0 _ rev created number lease _ (by omega) h1 h2 h3 h4).mono ?_
  rintro e w8 ⟨rfl, hb8⟩
  rw [E3.out]
  go_wp2_with fail
  refine (spaceOf_any M _ e4).mono ?_
  rintro e w9 ⟨rfl, rfl⟩
  obtain ⟨s, hs⟩ : ∃ s, s = spaceN M := ⟨_, rfl⟩
  obtain ⟨s', hs'⟩ : ∃ s', s' = spaceN M' := ⟨_, rfl⟩
  rw [← hs, ← hs'] at e5
  rw [← hs'] at e6
  rw [← hs, ← hs']
  clear hs hs' E1 E2 E3
  go_wp2
  go_ret
  exact ⟨ret_true (decide_eq_true (by omega)), hb5.trans ((hb7.trans (hb8.mono hb7.size)).mono hb5.size)⟩

set_option maxRecDepth 100000 in
set_option maxHeartbeats 2000000 in
theorem ins_ev (x : Addr) (kl kc : Nat) (y : Addr) (vl vc : Nat) (c rev created number lease : Int) (w : World) (h1 : Is64 rev) (h2 : Is64 created) (h3 : Is64 number) (h4 : Is64 lease) (hk : kl + vl ≤ 1048576) (hsx : Src w (some x) kl) (hsy : Src w (some y) vl) :
    Calls Try.prog 6 #[.slice (some x) kl kc, .slice (some y) vl vc, .int .i64 kl, .int .u8 c, .int .i64 rev, .int .i64 created, .int .i64 number, .int .i64 lease] w fun e w' => e = .returned (.bool true) ∧ Below w.heap.size w w' := by
  have hnx := fun W : World => run_neq_slice_nil_any (P := Try.prog) W 22 5 (some x) kl kc 0 0 Try.underlying22
  have hny := fun W : World => run_neq_slice_nil_any (P := Try.prog) W 22 5 (some y) vl vc 0 0 Try.underlying22
  have hmx := run_make_row' (P := Try.prog) 22 5 (.int .u8 0) 1 Try.underlying22 info5k rfl .i64 .i64 kl (by omega) (by omega)
  have hmy := run_make_row' (P := Try.prog) 22 5 (.int .u8 0) 1 Try.underlying22 info5k rfl .i64 .i64 vl (by omega) (by omega)
  have hml := run_make_row' (P := Try.prog) 22 5 (.int .u8 0) 1 Try.underlying22 info5k rfl .i64 .i64 (kl + 1) (by omega) (by omega)
  rw [show ((kl + 1 : Nat) : Int) = (kl : Int) + 1 by omega] at hml
  go_enter Try.func6, Try.ntmps6
  go_wp2_with (first
    | (go_at_call 15; go_in) | (refine wpList_copy_row rfl (.tmp 60) (.tmp 61) 22 22 rfl 5 Try.underlying22 size5k w.heap.size 0 kl kl (some x) kl kc rfl rfl kl 5 (RowAt.made _ _ rfl _ _) (hsx.alloc _) ?_ w.heap.size w ((Below.refl _ _).alloc (Nat.le_refl _) _) (Nat.le_refl _) ?_))
  · simp
  intro w2 hr2 hb2 hk2 hs2
  clear hk2 hs2 hsx hmx hnx
  have hl2 := hr2.lt
  replace hsy := hsy.below hb2
  go_wp2_with (first
    | (refine wpList_copy_row rfl (.tmp 69) (.tmp 70) 22 22 rfl 5 Try.underlying22 size5k w2.heap.size 0 vl vl (some y) vl vc rfl rfl vl 5 (RowAt.made _ _ rfl _ _) (hsy.alloc _) ?_ w.heap.size w (Below.alloc hb2 (by omega) _) (by omega) ?_))
  · simp
  intro w3 hr3 hb3 hk3 hs3
  have hl3 := hr3.lt
  replace hr2 := (hr2.alloc _).other hk3 (by omega)
  have hl4 := hr2.lt
  clear hk3 hs3 hsy hmy hny
  go_wp2_with (first
    | (refine wpList_copy_row rfl (.tmp 77) (.tmp 80) 22 22 rfl 5 Try.underlying22 size5k w3.heap.size 0 (kl + 1) (kl + 1) (some ⟨w.heap.size, 0, none⟩) kl kl rfl rfl (kl + 1) 5 (RowAt.made _ _ rfl _ _) ((hr2.alloc _).src 0 kl (by omega)) ?_ w.heap.size w (Below.alloc hb3 (by omega) _) (by omega) ?_))
  · rw [Nat.zero_add]; exact Nat.min_le_right _ _
  intro w4 hr4 hb4 hk4 hs4
  replace hr2 := (hr2.alloc _).other hk4 (by omega)
  clear hk4 hs4 hml
  obtain ⟨u, hc, _⟩ := hr4.cell (j := kl) (by omega)
  have hf := hr4.frozen kl
  have hR : RowAt (w4.setCell ⟨w3.heap.size, kl, none⟩ (.int .u8 c)).drew w3.heap.size (kl + 1) 5 := hr4.setCell kl (.int .u8 c) rfl
  have hB : Below w.heap.size w (w4.setCell ⟨w3.heap.size, kl, none⟩ (.int .u8 c)).drew := (hb4.setCell (p := ⟨w3.heap.size, kl, none⟩) (by show w.heap.size ≤ w3.heap.size; omega) (.int .u8 c)).drew
  have hle : w.heap.size ≤ w3.heap.size := by omega
  clear hr4 hb4 hr2
  go_wp2
  have hw1 : IntKind.i64.wrap ((kl : Int) + 1) = (kl : Int) + 1 := by rw [IntKind.wrap_i64]; omega
  have q1 : (0 : Int) ≤ (kl : Int) + 1 := by omega
  have q4 : (0 : Int) ≤ (kl : Int) := by omega
  go_region_law (refine step_copy_row rfl (.tmp 89) (.tmp 92) 22 22 rfl 5 Try.underlying22 size5k w3.heap.size 0 0 0 (some ⟨w.heap.size, 0, none⟩) 0 0 (by simp [Act.eval, Act.put]) (by simp [Act.eval, Act.put]) (kl + 1) 5 hR (Src.zero _ _) (by simp) w.heap.size w hB hle ?_; intro w5 hr5 hb5 hk5 hs5)
  clear hk5 hs5 hr5 hR hB hw1 q1 q4 hc hf
  obtain ⟨M, M', e1, e2, e3, e4, e5, e6⟩ := rec_step kl vl rev created number lease (by omega) h1 h2 h3 h4
  have E1 : Hid (recI (kl : Nat) (vl : Nat) rev created number lease + 13 = (M : Int)) := e1
  have E2 : Hid ((recI (kl : Nat) (vl : Nat) rev created number lease).toNat + 13 = M) := e2
  have E3 : Hid ((recI (kl + 1 : Nat) (vl : Nat) rev created number lease).toNat + 13 = M') := e3
  clear e1 e2 e3
  go_wp2_with fail
  refine (keyRecordOwn_any kl vl rev created number lease _ (by omega) h1 h2 h3 h4).mono ?_
  rintro e w6 ⟨rfl, rfl⟩
  rw [E1.out]
  go_wp2_with fail
  refine (zzKeySpace_any _ _ kl _ vl _ rev created number lease _ (by omega) h1 h2 h3 h4).mono ?_
  rintro e w7 ⟨rfl, hb7⟩
  rw [E2.out]
  go_wp2_with fail
  refine (zzKeySpace_any _ _ (kl + 1) _ vl _ rev created number lease _ (by omega) h1 h2 h3 h4).mono ?_
  rintro e w8 ⟨rfl, hb8⟩
  rw [E3.out]
  go_wp2_with fail
  refine (spaceOf_any M _ e4).mono ?_
  rintro e w9 ⟨rfl, rfl⟩
  obtain ⟨s, hs⟩ : ∃ s, s = spaceN M := ⟨_, rfl⟩
  obtain ⟨s', hs'⟩ : ∃ s', s' = spaceN M' := ⟨_, rfl⟩
  rw [← hs, ← hs'] at e5
  rw [← hs'] at e6
  rw [← hs, ← hs']
  clear hs hs' E1 E2 E3
  go_wp2
  go_ret
  exact ⟨ret_true (decide_eq_true (by omega)), hb5.trans ((hb7.trans (hb8.mono hb7.size)).mono hb5.size)⟩

end Go.Proofs.Qxb6613518a
