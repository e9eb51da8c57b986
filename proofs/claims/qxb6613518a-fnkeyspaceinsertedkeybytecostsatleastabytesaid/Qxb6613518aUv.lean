/-
  THE WALK OF 'uvBytes' (function 9).
-/
import Derived.Test.Qxb6613518aProg
import Derived.Test.Qxb6613518aPlain
import Derived.WalkKit
namespace Go.Proofs.Qxb6613518a
open Go.RowKit

theorem ret_int {k : IntKind} {a b : Int} (h : a = b) : Ending.returned (.int k a) = .returned (.int k b) := by rw [h]
theorem ret_true {b : Bool} (h : b = true) : Ending.returned (.bool b) = .returned (.bool true) := by rw [h]

set_option maxRecDepth 100000 in
set_option maxHeartbeats 400000 in
theorem uvBytes_any (x : Int) (hx0 : -9223372036854775808 ≤ x) (hx1 : x ≤ 9223372036854775807) (w : World) :
    Calls Try.prog 9 #[.int .i64 x] w fun e w' => e = .returned (.int .i64 (uvI x)) ∧ w' = w := by
  by_cases hn : x < 0
  · rw [uvI_neg hn]
    go_enter Try.func9, Try.ntmps9
    go_wp2
    go_ret
    exact ⟨rfl, rfl⟩
  · obtain ⟨n, rfl⟩ := Int.eq_ofNat_of_zero_le (by omega : 0 ≤ x)
    rw [uvI_nat]
    have hb := uvN_le (x := n) (by omega)
    go_enter Try.func9, Try.ntmps9
    go_wp2
    go_loop [0, 3] (fun xv kv => ∃ (y j : Nat), y ≤ n ∧ xv = .int .i64 y ∧ kv = .int .i64 j ∧ 1 ≤ j ∧ j + uvN y = 1 + uvN n) (fun xv _ => (intOf xv).toNat)
    case atStart => exact ⟨n, 1, Nat.le_refl _, rfl, rfl, by omega, by omega⟩
    case round =>
      obtain ⟨y, j, hy, rfl, rfl, hj, hs⟩ := hrel
      have hp := uvN_pos y
      have HS : Hid (j + uvN y = 1 + uvN n) := hs
      have hj2 : j ≤ 10 := by omega
      clear hs
      by_cases h128 : 128 ≤ y
      · go_wp2
        go_round
        case rel => exact ⟨y / 128, j + 1, by omega, by go_num, by go_num, by omega, by have := HS.out; rw [uvN_big h128] at this; omega⟩
        case measure => simp [intOf]; omega
      · go_wp2
        go_ret
        exact ⟨ret_int (by have := HS.out; rw [uvN_small (by omega : y < 128)] at this; omega), rfl⟩

end Go.Proofs.Qxb6613518a
