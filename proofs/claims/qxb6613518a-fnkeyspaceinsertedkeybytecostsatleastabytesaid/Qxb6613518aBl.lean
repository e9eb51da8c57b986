/-
  THE WALKS OF 'uvarintLen' (18), 'bytesLen' (16), 'ZZbytesLen' (8).
-/
import Derived.Test.Qxb6613518aUv
import Derived.Test.Qxb6613518aLen
import Derived.WalkKit
namespace Go.Proofs.Qxb6613518a
open Go.RowKit

/-- 'uint64(x) | 1' and its length, as uvarintLen reckons. -/
theorem or_len (x : Int) (hx0 : -9223372036854775808 ≤ x) (hx1 : x ≤ 9223372036854775807) :
    ∃ m : Nat, bits .or .u64 (IntKind.u64.wrap x) 1 = (m : Int) ∧ m ≤ 18446744073709551615 ∧ Lib.bitLen m ≤ 64 ∧ (((Lib.bitLen m + 6) / 7 : Nat) : Int) = uvI x := by
  obtain ⟨a, ha, hal⟩ : ∃ a : Nat, IntKind.u64.wrap x = (a : Int) ∧ ((0 ≤ x ∧ (a : Int) = x) ∨ (x < 0 ∧ (a : Int) = x + 18446744073709551616)) := by
    by_cases hn : x < 0
    · exact ⟨(x + 18446744073709551616).toNat, by rw [IntKind.wrap_u64]; omega, .inr ⟨hn, by omega⟩⟩
    · exact ⟨x.toNat, by rw [IntKind.wrap_u64]; omega, .inl ⟨by omega, by omega⟩⟩
  have hor := u64_or_nat a 1 (by omega) (by decide)
  rw [nat_or_one] at hor
  refine ⟨2 * (a / 2) + 1, by rw [ha]; exact hor, by omega, Lib.bitLen_le _ 64 (by omega) (by omega), ?_⟩
  rw [groups a (by omega)]
  rcases hal with ⟨h, e⟩ | ⟨h, e⟩
  · rw [← e, uvI_nat]
  · rw [uvI_neg h, ← groups a (by omega), bitLen_or_one (by omega) (by omega), Lib.bitLen_shift 63 a (by omega) (by omega), show a / 2 ^ 63 = 1 by omega, bitLen_one]
    rfl

set_option maxRecDepth 100000 in
set_option maxHeartbeats 400000 in
theorem uvarintLen_any (x : Int) (hx0 : -9223372036854775808 ≤ x) (hx1 : x ≤ 9223372036854775807) (w : World) :
    Calls Try.prog 18 #[.int .i64 x] w fun e w' => e = .returned (.int .i64 (uvI x)) ∧ w' = w := by
  obtain ⟨m, hor, hm, hb, hg⟩ := or_len x hx0 hx1
  have HG : Hid ((((Lib.bitLen m + 6) / 7 : Nat) : Int) = uvI x) := hg
  clear hg
  by_cases hn : x < 0
  · go_enter Try.func18, Try.ntmps18
    go_wp2_with fail
    refine (len64_any (m : Int) _ (by omega) (by omega)).mono ?_
    rintro e w' ⟨rfl, rfl⟩
    rw [Int.toNat_natCast]
    go_wp2
    go_ret
    exact ⟨ret_int (by rw [← HG.out]; omega), rfl⟩
  · rw [show IntKind.u64.wrap x = x by rw [IntKind.wrap_u64]; omega] at hor
    go_enter Try.func18, Try.ntmps18
    go_wp2_with fail
    refine (len64_any (m : Int) _ (by omega) (by omega)).mono ?_
    rintro e w' ⟨rfl, rfl⟩
    rw [Int.toNat_natCast]
    go_wp2
    go_ret
    exact ⟨ret_int (by rw [← HG.out]; omega), rfl⟩

set_option maxRecDepth 100000 in
set_option maxHeartbeats 400000 in
/-- bytesLen looks at the length alone. -/
theorem bytesLen_any (a : Option Addr) (n c : Nat) (hn : n ≤ 4194304) (w : World) :
    Calls Try.prog 16 #[.slice a n c] w fun e w' => e = .returned (.int .i64 (uvI n + n)) ∧ w' = w := by
  have hb := uvI_bd (x := (n : Int)) (by omega)
  go_enter Try.func16, Try.ntmps16
  go_wp2_with (go_at_call 18; refine (uvarintLen_any _ (by omega) (by omega) _).mono ?_; rintro e w' ⟨rfl, rfl⟩)
  go_ret
  exact ⟨rfl, rfl⟩

set_option maxRecDepth 100000 in
set_option maxHeartbeats 400000 in
theorem zzBytesLen_any (a : Option Addr) (n c : Nat) (hn : n ≤ 4194304) (w : World) :
    Calls Try.prog 8 #[.slice a n c] w fun e w' => e = .returned (.int .i64 (uvI n + n)) ∧ w' = w := by
  go_enter Try.func8, Try.ntmps8
  go_wp2_with (go_at_call 16; refine (bytesLen_any _ _ _ (by omega) _).mono ?_; rintro e w' ⟨rfl, rfl⟩)
  go_ret
  exact ⟨rfl, rfl⟩

end Go.Proofs.Qxb6613518a
