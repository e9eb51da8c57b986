/-
  THE WALK OF math/bits.Len64 (function 20).
-/
import Derived.Test.Qxb6613518aProg
import Derived.Lib.Strings
import Derived.Lib.Slices
import Derived.Lib.Small
import Derived.Lib.Walk
import Derived.Lib.BitFns
namespace Go.Proofs.Qxb6613518a

/-- ONE LEMMA FOR ALL EIGHT WAYS: p = 2^k has been cut off x, the table tells the length of what is left. -/
theorem tab_close (k : Nat) (p : Int) (hp : p = ((2 ^ k : Nat) : Int)) (x b : Int) (h0 : 0 ≤ x) (h1 : x ≤ 18446744073709551615) (hk : p ≤ x ∨ k = 0) (hb : b = x / p) (hb1 : b ≤ 255) :
    (k : Int) + Lib.len8 b = (Lib.bitLen x.toNat : Int) ∧ 0 ≤ Lib.len8 b ∧ Lib.len8 b ≤ 8 := by
  have hpos : (0 : Int) < p := by rw [hp]; exact_mod_cast Nat.two_pow_pos k
  have hb0 : 0 ≤ b := by rw [hb]; exact Int.ediv_nonneg h0 (Int.le_of_lt hpos)
  rw [Lib.len8_of b hb0 hb1]
  have l := Lib.bitLen_le8' b hb0 hb1
  refine ⟨?_, by omega, by omega⟩
  have e : b.toNat = x.toNat / 2 ^ k := by
    obtain ⟨n, rfl⟩ := Int.eq_ofNat_of_zero_le h0
    rw [hb, hp]
    rw [← Int.natCast_ediv, Int.toNat_natCast, Int.toNat_natCast]
  rw [e]
  rcases hk with hk | hk
  · have := Lib.bitLen_shift k x.toNat (by rw [hp] at hk; omega) (by omega)
    omega
  · subst hk; simp

set_option maxHeartbeats 4000000 in
set_option maxRecDepth 100000 in
theorem len64_any (x : Int) (w : World) (h0 : 0 ≤ x) (h1 : x ≤ 18446744073709551615) :
    Calls Try.prog 20 #[.int .u64 x] w fun e w' => e = .returned (.int .i64 (Lib.bitLen x.toNat)) ∧ w' = w := by
  go_enter Try.func20, Try.ntmps20
  go_wp2
  all_goals (go_ret; refine ⟨congrArg Ending.returned (congrArg (Value.int IntKind.i64) ?_), rfl⟩)
  all_goals first
    | (have c := tab_close 56 72057594037927936 (by decide) x (x / 4294967296 / 65536 / 256 % 256) h0 h1 (by omega) (by omega) (by omega); omega)
    | (have c := tab_close 48 281474976710656 (by decide) x (x / 4294967296 / 65536 % 256) h0 h1 (by omega) (by omega) (by omega); omega)
    | (have c := tab_close 40 1099511627776 (by decide) x (x / 4294967296 / 256 % 256) h0 h1 (by omega) (by omega) (by omega); omega)
    | (have c := tab_close 32 4294967296 (by decide) x (x / 4294967296 % 256) h0 h1 (by omega) (by omega) (by omega); omega)
    | (have c := tab_close 24 16777216 (by decide) x (x / 65536 / 256 % 256) h0 h1 (by omega) (by omega) (by omega); omega)
    | (have c := tab_close 16 65536 (by decide) x (x / 65536 % 256) h0 h1 (by omega) (by omega) (by omega); omega)
    | (have c := tab_close 8 256 (by decide) x (x / 256 % 256) h0 h1 (by omega) (by omega) (by omega); omega)
    | (have c := tab_close 0 1 (by decide) x (x % 256) h0 h1 (by omega) (by omega) (by omega); omega)

end Go.Proofs.Qxb6613518a
