/-
  THE WALKS OF 'keySpace' (17), 'ZZkeySpace' (13), 'keyRecordOwn' (12), 'spaceOf' (14).
-/
import Derived.Test.Qxb6613518aOpen
import Derived.Deep.QuietTactic
import Derived.BigQuiet
import Derived.WalkSmall
namespace Go.Proofs.Qxb6613518a
open Go.RowKit

/-- The bytes of a put's record. -/
def recI (kl vl : Nat) (rev created number lease : Int) : Int :=
  1 + (uvI kl + kl) + (uvI vl + vl) + uvI created + uvI rev + uvI number + (if lease = 0 then 0 else uvI lease)

/-- An int64. -/
def Is64 (x : Int) : Prop := -9223372036854775808 ≤ x ∧ x ≤ 9223372036854775807

set_option maxRecDepth 100000 in
set_option maxHeartbeats 1000000 in
theorem keySpace_no (ka va : Option Addr) (kl kc vl vc : Nat) (rev created number : Int) (w : World) (hk : kl + vl ≤ 1048577) (h1 : Is64 rev) (h2 : Is64 created) (h3 : Is64 number) :
    Calls Try.prog 17 #[.slice ka kl kc, .agg #[.int .i64 rev, .slice va vl vc, .int .i64 created, .int .i64 number, .int .i64 0]] w fun e w' =>
      e = .returned (.int .i64 (spaceN ((recI kl vl rev created number 0).toNat + 13))) ∧ Below w.heap.size w w' := by
  unfold Is64 at h1 h2 h3
  have b1 := uvI_bd (x := (kl : Int)) (by omega)
  have b2 := uvI_bd (x := (vl : Int)) (by omega)
  have b3 := uvI_bd (x := created) (by omega)
  have b4 := uvI_bd (x := rev) (by omega)
  have b5 := uvI_bd (x := number) (by omega)
  go_enter Try.func17, Try.ntmps17
  go_wp2
  go_quiet ((first | (go_at_call 16; exact Calls.quiet_of_same (bytesLen_any _ _ _ (by omega) _)) | (go_at_call 18; exact Calls.quiet_of_same (uvarintLen_any _ (by omega) (by omega) _))))
  go_wp2_with fail
  obtain ⟨m, hm, e1⟩ : ∃ m : Nat, m = (recI kl vl rev created number 0).toNat ∧ 1 + (uvI kl + kl) + (uvI vl + vl) + uvI created + uvI rev + uvI number = (m : Int) :=
    ⟨_, rfl, by unfold recI; rw [if_pos rfl]; omega⟩
  rw [e1]
  have HM : Hid (m = (recI kl vl rev created number 0).toNat) := hm
  refine (recordSpace_any m _ (by omega) (by omega)).mono ?_
  clear hm e1 b1 b2 b3 b4 b5
  rintro e w' ⟨rfl, hb⟩
  go_wp2
  go_ret
  exact ⟨ret_int (by rw [← HM.out]), (below_drewN ((Below.refl _ _).alloc (Nat.le_refl _) _) _).trans (hb.mono (by simp))⟩

set_option maxRecDepth 100000 in
set_option maxHeartbeats 1000000 in
theorem keySpace_yes (ka va : Option Addr) (kl kc vl vc : Nat) (rev created number lease : Int) (w : World) (hk : kl + vl ≤ 1048577) (h1 : Is64 rev) (h2 : Is64 created) (h3 : Is64 number) (h4 : Is64 lease) (hl : (lease != 0) = true) :
    Calls Try.prog 17 #[.slice ka kl kc, .agg #[.int .i64 rev, .slice va vl vc, .int .i64 created, .int .i64 number, .int .i64 lease]] w fun e w' =>
      e = .returned (.int .i64 (spaceN ((recI kl vl rev created number lease).toNat + 13))) ∧ Below w.heap.size w w' := by
  unfold Is64 at h1 h2 h3 h4
  have b1 := uvI_bd (x := (kl : Int)) (by omega)
  have b2 := uvI_bd (x := (vl : Int)) (by omega)
  have b3 := uvI_bd (x := created) (by omega)
  have b4 := uvI_bd (x := rev) (by omega)
  have b5 := uvI_bd (x := number) (by omega)
  have b6 := uvI_bd (x := lease) (by omega)
  go_enter Try.func17, Try.ntmps17
  go_wp2
  go_quiet ((first | (go_at_call 16; exact Calls.quiet_of_same (bytesLen_any _ _ _ (by omega) _)) | (go_at_call 18; exact Calls.quiet_of_same (uvarintLen_any _ (by omega) (by omega) _))))
  go_wp2_with fail
  refine (uvarintLen_any _ (by omega) (by omega) _).mono ?_
  rintro e w' ⟨rfl, rfl⟩
  go_wp2_with fail
  obtain ⟨m, hm, e1⟩ : ∃ m : Nat, m = (recI kl vl rev created number lease).toNat ∧ 1 + (uvI kl + kl) + (uvI vl + vl) + uvI created + uvI rev + uvI number + uvI lease = (m : Int) :=
    ⟨_, rfl, by unfold recI; rw [if_neg (by simpa using hl)]; omega⟩
  rw [e1]
  have HM : Hid (m = (recI kl vl rev created number lease).toNat) := hm
  refine (recordSpace_any m _ (by omega) (by omega)).mono ?_
  clear hm e1 b1 b2 b3 b4 b5 b6
  rintro e w' ⟨rfl, hb⟩
  go_wp2
  go_ret
  exact ⟨ret_int (by rw [← HM.out]), (below_drewN ((Below.refl _ _).alloc (Nat.le_refl _) _) _).trans (hb.mono (by simp))⟩

set_option maxRecDepth 100000 in
set_option maxHeartbeats 1000000 in
theorem zzKeySpace_any (ka va : Option Addr) (kl kc vl vc : Nat) (rev created number lease : Int) (w : World) (hk : kl + vl ≤ 1048577) (h1 : Is64 rev) (h2 : Is64 created) (h3 : Is64 number) (h4 : Is64 lease) :
    Calls Try.prog 13 #[.slice ka kl kc, .int .i64 rev, .slice va vl vc, .int .i64 created, .int .i64 number, .int .i64 lease] w fun e w' =>
      e = .returned (.int .i64 (spaceN ((recI kl vl rev created number lease).toNat + 13))) ∧ Below w.heap.size w w' := by
  by_cases hl : lease = 0
  · subst hl
    go_enter Try.func13, Try.ntmps13
    go_wp2_with fail
    refine (keySpace_no ka va kl kc vl vc rev created number _ hk h1 h2 h3).mono ?_
    rintro e w' ⟨rfl, hb⟩
    go_wp2
    go_ret
    exact ⟨rfl, hb⟩
  · go_enter Try.func13, Try.ntmps13
    go_wp2_with fail
    refine (keySpace_yes ka va kl kc vl vc rev created number lease _ hk h1 h2 h3 h4 (by simpa using hl)).mono ?_
    rintro e w' ⟨rfl, hb⟩
    go_wp2
    go_ret
    exact ⟨rfl, hb⟩

set_option maxRecDepth 100000 in
set_option maxHeartbeats 1000000 in
/-- The law's own count of the record's bytes. -/
theorem keyRecordOwn_any (kl vl : Nat) (rev created number lease : Int) (w : World) (hk : kl + vl ≤ 1048577) (h1 : Is64 rev) (h2 : Is64 created) (h3 : Is64 number) (h4 : Is64 lease) :
    Calls Try.prog 12 #[.int .i64 kl, .int .i64 vl, .int .i64 rev, .int .i64 created, .int .i64 number, .int .i64 lease] w fun e w' =>
      e = .returned (.int .i64 (recI kl vl rev created number lease + 13)) ∧ w' = w := by
  unfold Is64 at h1 h2 h3 h4
  have b1 := uvI_bd (x := (kl : Int)) (by omega)
  have b2 := uvI_bd (x := (vl : Int)) (by omega)
  have b3 := uvI_bd (x := created) (by omega)
  have b4 := uvI_bd (x := rev) (by omega)
  have b5 := uvI_bd (x := number) (by omega)
  have b6 := uvI_bd (x := lease) (by omega)
  by_cases hl : lease = 0
  · subst hl
    go_enter Try.func12, Try.ntmps12
    go_wp2_with (go_at_call 9; refine (uvBytes_any _ (by omega) (by omega) _).mono ?_; rintro e w' ⟨rfl, rfl⟩)
    go_ret
    exact ⟨ret_int (by unfold recI; rw [if_pos rfl]; omega), rfl⟩
  · have hb : (lease != 0) = true := by simpa using hl
    clear hl
    go_enter Try.func12, Try.ntmps12
    go_wp2_with (go_at_call 9; refine (uvBytes_any _ (by omega) (by omega) _).mono ?_; rintro e w' ⟨rfl, rfl⟩)
    go_ret
    exact ⟨ret_int (by unfold recI; rw [if_neg (by simpa using hb)]; omega), rfl⟩

theorem space_bounds (own : Nat) (h : own ≤ 2097151) : (uvN own = 1 ∨ uvN own = 2 ∨ uvN own = 3) ∧ spaceN own * (509 - uvN own) ≤ own * 524288 ∧ own * 524288 < (spaceN own + 1) * (509 - uvN own) := by
  have h3 := uvN_le3 (x := own) (by omega)
  have h1 := uvN_pos own
  unfold spaceN
  refine ⟨by omega, Nat.div_mul_le_self _ _, ?_⟩
  have := Nat.lt_div_mul_add (a := own * 524288) (b := 509 - uvN own) (by omega)
  rw [Nat.add_mul, Nat.one_mul]
  exact this

set_option maxRecDepth 100000 in
set_option maxHeartbeats 1000000 in
theorem spaceOf_any (own : Nat) (w : World) (h : own ≤ 2097151) :
    Calls Try.prog 14 #[.int .i64 (spaceN own), .int .i64 own] w fun e w' => e = .returned (.bool true) ∧ w' = w := by
  obtain ⟨hp, hlo, hhi⟩ := space_bounds own h
  obtain ⟨s, hs⟩ : ∃ s : Nat, s = spaceN own := ⟨_, rfl⟩
  rw [← hs] at hlo hhi ⊢
  clear hs
  rcases hp with hp | hp | hp
  all_goals
    rw [hp] at hlo hhi
    have HP : Hid (uvI own = _) := (uvI_nat own).trans (congrArg Nat.cast hp)
    clear hp
    simp only [Nat.reduceSub] at hlo hhi
    go_enter Try.func14, Try.ntmps14
    go_wp2_with fail
    refine (uvBytes_any _ (by omega) (by omega) _).mono ?_
    rintro e w' ⟨rfl, rfl⟩
    rw [HP.out]
    go_wp2
    go_ret
    exact ⟨ret_true (decide_eq_true (by omega)), rfl⟩

end Go.Proofs.Qxb6613518a
