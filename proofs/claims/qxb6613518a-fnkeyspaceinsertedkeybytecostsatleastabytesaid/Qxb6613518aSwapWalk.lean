/-
  THE WALK OF 'FnKeySpaceExactAndKeyValueSwap' (function 5).
-/
import Derived.WalkSpells
import Derived.Test.Qxb6613518aKey
namespace Go.Proofs.Qxb6613518a
open Go.RowKit

theorem info5k : (Try.prog.info? 5).map (fun i => (i.zero, i.size, i.bytes)) = some (some (.int .u8 0), 1, 1) := by kernel_rfl
theorem size5k : (Try.prog.info? 5).map (·.size) = some 1 := by kernel_rfl

theorem rec_nat (kl vl : Nat) (rev created number lease : Int) (hk : kl + vl ≤ 1048577) (h1 : Is64 rev) (h2 : Is64 created) (h3 : Is64 number) (h4 : Is64 lease) :
    ∃ M : Nat, recI kl vl rev created number lease + 13 = (M : Int) ∧ (recI kl vl rev created number lease).toNat + 13 = M ∧ M ≤ 2097151 := by
  unfold Is64 at h1 h2 h3 h4
  have b1 := uvI_bd (x := (kl : Int)) (by omega)
  have b2 := uvI_bd (x := (vl : Int)) (by omega)
  have b3 := uvI_bd (x := created) (by omega)
  have b4 := uvI_bd (x := rev) (by omega)
  have b5 := uvI_bd (x := number) (by omega)
  have b6 := uvI_bd (x := lease) (by omega)
  have hb : 0 ≤ recI kl vl rev created number lease ∧ recI kl vl rev created number lease ≤ 2097000 := by
    unfold recI; split <;> omega
  exact ⟨(recI kl vl rev created number lease).toNat + 13, by omega, rfl, by omega⟩

theorem rec_swap (kl vl : Nat) (rev created number lease : Int) : recI vl kl number rev created lease = recI kl vl rev created number lease := by
  unfold recI; omega

set_option maxRecDepth 100000 in
set_option maxHeartbeats 2000000 in
theorem swap_nn (rev created number lease : Int) (w : World) (h1 : Is64 rev) (h2 : Is64 created) (h3 : Is64 number) (h4 : Is64 lease) :
    Calls Try.prog 5 #[.slice none 0 0, .slice none 0 0, .int .i64 rev, .int .i64 created, .int .i64 number, .int .i64 lease] w fun e w' => e = .returned (.bool true) ∧ Below w.heap.size w w' := by
  have hnx := fun W : World => run_neq_slice_nil_any (P := Try.prog) W 22 5 none 0 0 0 0 Try.underlying22
  go_enter Try.func5, Try.ntmps5
  go_wp2_with (go_at_call 11; go_in)
  obtain ⟨M, e1, e2, e3⟩ := rec_nat 0 0 rev created number lease (by omega) h1 h2 h3 h4
  have hsw := rec_swap 0 0 rev created number lease
  have E1 : Hid (recI (0 : Nat) (0 : Nat) rev created number lease + 13 = (M : Int)) := e1
  have E2 : Hid ((recI (0 : Nat) (0 : Nat) rev created number lease).toNat + 13 = M) := e2
  have E3 : Hid ((recI (0 : Nat) (0 : Nat) number rev created lease).toNat + 13 = M) := by rw [hsw]; exact e2
  clear e1 e2 hsw
  refine (keyRecordOwn_any 0 0 rev created number lease _ (by omega) h1 h2 h3 h4).mono ?_
  rintro e w' ⟨rfl, rfl⟩
  rw [E1.out]
  go_wp2_with fail
  refine (zzKeySpace_any _ _ 0 _ 0 _ rev created number lease _ (by omega) h1 h2 h3 h4).mono ?_
  rintro e w4 ⟨rfl, hb4⟩
  rw [E2.out]
  go_wp2_with fail
  refine (zzKeySpace_any _ _ 0 _ 0 _ number rev created lease _ (by omega) h3 h1 h2 h4).mono ?_
  rintro e w5 ⟨rfl, hb5⟩
  rw [E3.out]
  go_wp2_with fail
  refine (spaceOf_any M _ e3).mono ?_
  rintro e w6 ⟨rfl, rfl⟩
  go_wp2
  go_ret
  exact ⟨rfl, hb4.trans (hb5.mono hb4.size)⟩

set_option maxRecDepth 100000 in
set_option maxHeartbeats 2000000 in
theorem swap_nv (y : Addr) (vl vc : Nat) (rev created number lease : Int) (w : World) (h1 : Is64 rev) (h2 : Is64 created) (h3 : Is64 number) (h4 : Is64 lease) (hk : 0 + vl ≤ 1048576) (hsy : Src w (some y) vl) :
    Calls Try.prog 5 #[.slice none 0 0, .slice (some y) vl vc, .int .i64 rev, .int .i64 created, .int .i64 number, .int .i64 lease] w fun e w' => e = .returned (.bool true) ∧ Below w.heap.size w w' := by
  have hnx := fun W : World => run_neq_slice_nil_any (P := Try.prog) W 22 5 none 0 0 0 0 Try.underlying22
  have hny := fun W : World => run_neq_slice_nil_any (P := Try.prog) W 22 5 (some y) vl vc 0 0 Try.underlying22
  have hmy := run_make_row' (P := Try.prog) 22 5 (.int .u8 0) 1 Try.underlying22 info5k rfl .i64 .i64 vl (by omega) (by omega)
  go_enter Try.func5, Try.ntmps5
  go_wp2_with (first
    | (go_at_call 11; go_in)
    | (refine wpList_copy_row rfl (.tmp 54) (.tmp 55) 22 22 rfl 5 Try.underlying22 size5k w.heap.size 0 vl vl (some y) vl vc rfl rfl vl 5 (RowAt.made _ _ rfl _ _) (hsy.alloc _) ?_ w.heap.size w ((Below.refl _ _).alloc (Nat.le_refl _) _) (Nat.le_refl _) ?_))
  · simp
  intro w3 hr3 hb3 hk3 hs3
  clear hk3 hs3 hsy hmy hny hnx
  go_wp2_with fail
  obtain ⟨M, e1, e2, e3⟩ := rec_nat 0 vl rev created number lease (by omega) h1 h2 h3 h4
  have hsw := rec_swap 0 vl rev created number lease
  have E1 : Hid (recI (0 : Nat) (vl : Nat) rev created number lease + 13 = (M : Int)) := e1
  have E2 : Hid ((recI (0 : Nat) (vl : Nat) rev created number lease).toNat + 13 = M) := e2
  have E3 : Hid ((recI (vl : Nat) (0 : Nat) number rev created lease).toNat + 13 = M) := by rw [hsw]; exact e2
  clear e1 e2 hsw
  refine (keyRecordOwn_any 0 vl rev created number lease _ (by omega) h1 h2 h3 h4).mono ?_
  rintro e w' ⟨rfl, rfl⟩
  rw [E1.out]
  go_wp2_with fail
  refine (zzKeySpace_any _ _ 0 _ vl _ rev created number lease _ (by omega) h1 h2 h3 h4).mono ?_
  rintro e w4 ⟨rfl, hb4⟩
  rw [E2.out]
  go_wp2_with fail
  refine (zzKeySpace_any _ _ vl _ 0 _ number rev created lease _ (by omega) h3 h1 h2 h4).mono ?_
  rintro e w5 ⟨rfl, hb5⟩
  rw [E3.out]
  go_wp2_with fail
  refine (spaceOf_any M _ e3).mono ?_
  rintro e w6 ⟨rfl, rfl⟩
  go_wp2
  go_ret
  exact ⟨rfl, hb3.trans ((hb4.trans (hb5.mono hb4.size)).mono hb3.size)⟩

set_option maxRecDepth 100000 in
set_option maxHeartbeats 2000000 in
theorem swap_kn (x : Addr) (kl kc : Nat) (rev created number lease : Int) (w : World) (h1 : Is64 rev) (h2 : Is64 created) (h3 : Is64 number) (h4 : Is64 lease) (hk : kl + 0 ≤ 1048576) (hsx : Src w (some x) kl) :
    Calls Try.prog 5 #[.slice (some x) kl kc, .slice none 0 0, .int .i64 rev, .int .i64 created, .int .i64 number, .int .i64 lease] w fun e w' => e = .returned (.bool true) ∧ Below w.heap.size w w' := by
  have hnx := fun W : World => run_neq_slice_nil_any (P := Try.prog) W 22 5 (some x) kl kc 0 0 Try.underlying22
  have hny := fun W : World => run_neq_slice_nil_any (P := Try.prog) W 22 5 none 0 0 0 0 Try.underlying22
  have hmx := run_make_row' (P := Try.prog) 22 5 (.int .u8 0) 1 Try.underlying22 info5k rfl .i64 .i64 kl (by omega) (by omega)
  go_enter Try.func5, Try.ntmps5
  go_wp2_with (first
    | (go_at_call 11; go_in)
    | (refine wpList_copy_row rfl (.tmp 45) (.tmp 46) 22 22 rfl 5 Try.underlying22 size5k w.heap.size 0 kl kl (some x) kl kc rfl rfl kl 5 (RowAt.made _ _ rfl _ _) (hsx.alloc _) ?_ w.heap.size w ((Below.refl _ _).alloc (Nat.le_refl _) _) (Nat.le_refl _) ?_))
  · simp
  intro w2 hr2 hb2 hk2 hs2
  clear hk2 hs2 hsx hmx hnx
  go_wp2_with fail
  obtain ⟨M, e1, e2, e3⟩ := rec_nat kl 0 rev created number lease (by omega) h1 h2 h3 h4
  have hsw := rec_swap kl 0 rev created number lease
  have E1 : Hid (recI (kl : Nat) (0 : Nat) rev created number lease + 13 = (M : Int)) := e1
  have E2 : Hid ((recI (kl : Nat) (0 : Nat) rev created number lease).toNat + 13 = M) := e2
  have E3 : Hid ((recI (0 : Nat) (kl : Nat) number rev created lease).toNat + 13 = M) := by rw [hsw]; exact e2
  clear e1 e2 hsw
  refine (keyRecordOwn_any kl 0 rev created number lease _ (by omega) h1 h2 h3 h4).mono ?_
  rintro e w' ⟨rfl, rfl⟩
  rw [E1.out]
  go_wp2_with fail
  refine (zzKeySpace_any _ _ kl _ 0 _ rev created number lease _ (by omega) h1 h2 h3 h4).mono ?_
  rintro e w4 ⟨rfl, hb4⟩
  rw [E2.out]
  go_wp2_with fail
  refine (zzKeySpace_any _ _ 0 _ kl _ number rev created lease _ (by omega) h3 h1 h2 h4).mono ?_
  rintro e w5 ⟨rfl, hb5⟩
  rw [E3.out]
  go_wp2_with fail
  refine (spaceOf_any M _ e3).mono ?_
  rintro e w6 ⟨rfl, rfl⟩
  go_wp2
  go_ret
  exact ⟨rfl, hb2.trans ((hb4.trans (hb5.mono hb4.size)).mono hb2.size)⟩

set_option maxRecDepth 100000 in
set_option maxHeartbeats 2000000 in
theorem swap_kv (x : Addr) (kl kc : Nat) (y : Addr) (vl vc : Nat) (rev created number lease : Int) (w : World) (h1 : Is64 rev) (h2 : Is64 created) (h3 : Is64 number) (h4 : Is64 lease) (hk : kl + vl ≤ 1048576) (hsx : Src w (some x) kl) (hsy : Src w (some y) vl) :
    Calls Try.prog 5 #[.slice (some x) kl kc, .slice (some y) vl vc, .int .i64 rev, .int .i64 created, .int .i64 number, .int .i64 lease] w fun e w' => e = .returned (.bool true) ∧ Below w.heap.size w w' := by
  have hnx := fun W : World => run_neq_slice_nil_any (P := Try.prog) W 22 5 (some x) kl kc 0 0 Try.underlying22
  have hny := fun W : World => run_neq_slice_nil_any (P := Try.prog) W 22 5 (some y) vl vc 0 0 Try.underlying22
  have hmx := run_make_row' (P := Try.prog) 22 5 (.int .u8 0) 1 Try.underlying22 info5k rfl .i64 .i64 kl (by omega) (by omega)
  have hmy := run_make_row' (P := Try.prog) 22 5 (.int .u8 0) 1 Try.underlying22 info5k rfl .i64 .i64 vl (by omega) (by omega)
  go_enter Try.func5, Try.ntmps5
  go_wp2_with (first
    | (go_at_call 11; go_in)
    | (refine wpList_copy_row rfl (.tmp 45) (.tmp 46) 22 22 rfl 5 Try.underlying22 size5k w.heap.size 0 kl kl (some x) kl kc rfl rfl kl 5 (RowAt.made _ _ rfl _ _) (hsx.alloc _) ?_ w.heap.size w ((Below.refl _ _).alloc (Nat.le_refl _) _) (Nat.le_refl _) ?_))
  · simp
  intro w2 hr2 hb2 hk2 hs2
  clear hk2 hs2 hsx hmx hnx
  replace hsy := hsy.below hb2
  have hlt := hr2.lt
  go_wp2_with (refine wpList_copy_row rfl (.tmp 54) (.tmp 55) 22 22 rfl 5 Try.underlying22 size5k w2.heap.size 0 vl vl (some y) vl vc rfl rfl vl 5 (RowAt.made _ _ rfl _ _) (hsy.alloc _) ?_ w.heap.size w (hb2.alloc (by omega) _) (by omega) ?_)
  · simp
  intro w3 hr3 hb3 hk3 hs3
  clear hk3 hs3 hsy hmy hny
  go_wp2_with fail
  obtain ⟨M, e1, e2, e3⟩ := rec_nat kl vl rev created number lease (by omega) h1 h2 h3 h4
  have hsw := rec_swap kl vl rev created number lease
  have E1 : Hid (recI (kl : Nat) (vl : Nat) rev created number lease + 13 = (M : Int)) := e1
  have E2 : Hid ((recI (kl : Nat) (vl : Nat) rev created number lease).toNat + 13 = M) := e2
  have E3 : Hid ((recI (vl : Nat) (kl : Nat) number rev created lease).toNat + 13 = M) := by rw [hsw]; exact e2
  clear e1 e2 hsw
  refine (keyRecordOwn_any kl vl rev created number lease _ (by omega) h1 h2 h3 h4).mono ?_
  rintro e w' ⟨rfl, rfl⟩
  rw [E1.out]
  go_wp2_with fail
  refine (zzKeySpace_any _ _ kl _ vl _ rev created number lease _ (by omega) h1 h2 h3 h4).mono ?_
  rintro e w4 ⟨rfl, hb4⟩
  rw [E2.out]
  go_wp2_with fail
  refine (zzKeySpace_any _ _ vl _ kl _ number rev created lease _ (by omega) h3 h1 h2 h4).mono ?_
  rintro e w5 ⟨rfl, hb5⟩
  rw [E3.out]
  go_wp2_with fail
  refine (spaceOf_any M _ e3).mono ?_
  rintro e w6 ⟨rfl, rfl⟩
  go_wp2
  go_ret
  exact ⟨rfl, hb3.trans ((hb4.trans (hb5.mono hb4.size)).mono hb3.size)⟩

set_option maxRecDepth 100000 in
set_option maxHeartbeats 1000000 in
theorem swap_long (ka va : Option Addr) (kl kc vl vc : Nat) (rev created number lease : Int) (w : World) (hk : 1048576 < kl + vl) (hm : kl ≤ maxLen) (hv : vl ≤ maxLen) :
    Calls Try.prog 5 #[.slice ka kl kc, .slice va vl vc, .int .i64 rev, .int .i64 created, .int .i64 number, .int .i64 lease] w fun e w' => e = .returned (.bool true) ∧ Below w.heap.size w w' := by
  unfold maxLen at hm hv
  by_cases c1 : 1048576 < kl
  · go_enter Try.func5, Try.ntmps5
    go_wp2
    go_ret
    exact ⟨rfl, Below.refl _ _⟩
  · by_cases c2 : 1048576 < vl
    · go_enter Try.func5, Try.ntmps5
      go_wp2
      go_ret
      exact ⟨rfl, Below.refl _ _⟩
    · go_enter Try.func5, Try.ntmps5
      go_wp2
      go_ret
      exact ⟨rfl, Below.refl _ _⟩

end Go.Proofs.Qxb6613518a
