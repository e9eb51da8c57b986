/-
  THE WALKS OF 'keyBytes' (15), 'keyFits' (13), 'zzBytes_..' (12, 16), 'absent' (18), 'ZZabsent' (14).
-/
import Derived.Test.Qxb6614160aProg
import Derived.Test.Qxb6614160aRow
namespace Go.Proofs.Qxb6614160a
open Go.RowKit

/-- Some int, the world as it was. -/
def SomeInt (w : World) (e : Ending) (w' : World) : Prop := ∃ t : Int, e = .returned (.int .i64 t) ∧ w' = w

set_option maxRecDepth 100000 in
set_option maxHeartbeats 1000000 in
theorem keyBytes_any (a : Option Addr) (n c : Nat) (w : World) (hn : n ≤ 1048576) (hs : Src w a n) :
    Calls Try.prog 15 #[.slice a n c] w (SomeInt w) := by
  by_cases h0 : 0 < n
  · obtain ⟨b, off, rfl, hc⟩ := hs.spots h0
    have HC : Hid (∀ j, j < n → ∃ s : ByteArray, w.cell? ⟨b, off + j, none⟩ = some (.string s)) := hc
    clear hc
    go_enter Try.func15, Try.ntmps15
    go_wp2
    go_loop [3, 4] (fun t i => ∃ (x : Int) (k : Nat), k ≤ n ∧ t = .int .i64 x ∧ i = .int .i64 k) (fun _ i => n - (intOf i).toNat)
    case atStart => exact ⟨0, 0, Nat.zero_le _, rfl, rfl⟩
    case round =>
      obtain ⟨x, k, hk, rfl, rfl⟩ := hrel
      by_cases hlt : k < n
      · obtain ⟨s, hcell⟩ := HC.out k hlt
        go_wp2
        go_round
        case rel => exact ⟨_, k + 1, by omega, rfl, by go_num⟩
        case measure => simp [intOf]; omega
      · go_wp2
        go_ret
        exact ⟨_, rfl, rfl⟩
  · obtain rfl : n = 0 := by omega
    go_enter Try.func15, Try.ntmps15
    go_wp2
    refine wp_loop_rounds 1 ?_
    rw [rounds_succ]
    go_wp2
    go_ret
    exact ⟨_, rfl, rfl⟩

/-- Some bool, the world as it was; where it is true 'p' holds. -/
def SomeBool (p : Prop) (w : World) (e : Ending) (w' : World) : Prop := ∃ b : Bool, e = .returned (.bool b) ∧ (b = true → p) ∧ w' = w

set_option maxRecDepth 100000 in
set_option maxHeartbeats 1000000 in
theorem keyFits_any (nm : ByteArray) (a : Option Addr) (n c : Nat) (w : World) (hm : nm.size ≤ maxLen) (hn : n ≤ 1048576) (hs : Src w a n) :
    Calls Try.prog 13 #[.string nm, .slice a n c] w (SomeBool True w) := by
  unfold maxLen at hm
  by_cases c1 : 1048576 < nm.size
  · go_enter Try.func13, Try.ntmps13
    go_wp2
    go_ret
    exact ⟨_, rfl, fun _ => trivial, rfl⟩
  · by_cases h0 : 0 < n
    · obtain ⟨b, off, rfl, hc⟩ := hs.spots h0
      have HC : Hid (∀ j, j < n → ∃ s : ByteArray, w.cell? ⟨b, off + j, none⟩ = some (.string s)) := hc
      clear hc hs
      go_enter Try.func13, Try.ntmps13
      go_wp2
      go_loop [5, 6] (fun t i => ∃ (x : Int) (k : Nat), k ≤ n ∧ t = .int .i64 x ∧ i = .int .i64 k) (fun _ i => n - (intOf i).toNat)
      case atStart => exact ⟨_, 0, Nat.zero_le _, rfl, rfl⟩
      case round =>
        obtain ⟨x, k, hk, rfl, rfl⟩ := hrel
        by_cases hlt : k < n
        · obtain ⟨s, hcell⟩ := HC.out k hlt
          go_wp2
          · go_ret
            exact ⟨_, rfl, fun _ => trivial, rfl⟩
          · go_round
            case rel => exact ⟨_, k + 1, by omega, rfl, by go_num⟩
            case measure => simp [intOf]; omega
        · go_wp2
          go_ret
          exact ⟨_, rfl, fun _ => trivial, rfl⟩
    · obtain rfl : n = 0 := by omega
      go_enter Try.func13, Try.ntmps13
      go_wp2
      refine wp_loop_rounds 1 ?_
      rw [rounds_succ]
      go_wp2
      go_ret
      exact ⟨_, rfl, fun _ => trivial, rfl⟩

set_option maxRecDepth 100000 in
set_option maxHeartbeats 1000000 in
theorem zzBytes12_any (nm : ByteArray) (a : Option Addr) (n c : Nat) (i : Int) (w : World) (hm : nm.size ≤ maxLen) (hn : n ≤ maxLen) (hs : Src w a n) :
    Calls Try.prog 12 #[.string nm, .slice a n c, .int .i64 i] w (SomeBool (n ≤ 1048576) w) := by
  unfold maxLen at hm hn
  by_cases c1 : 1048576 < nm.size
  · go_enter Try.func12, Try.ntmps12
    go_wp2
    go_ret
    exact ⟨_, rfl, (fun h => absurd h Bool.false_ne_true), rfl⟩
  · by_cases c2 : 1048576 < n
    · go_enter Try.func12, Try.ntmps12
      go_wp2
      go_ret
      exact ⟨_, rfl, (fun h => absurd h Bool.false_ne_true), rfl⟩
    · by_cases c3 : 1048576 < nm.size + n
      · go_enter Try.func12, Try.ntmps12
        go_wp2
        go_ret
        exact ⟨_, rfl, (fun h => absurd h Bool.false_ne_true), rfl⟩
      · by_cases h0 : 0 < n
        · obtain ⟨b, off, rfl, hc⟩ := hs.spots h0
          have HC : Hid (∀ j, j < n → ∃ s : ByteArray, w.cell? ⟨b, off + j, none⟩ = some (.string s)) := hc
          clear hc hs
          go_enter Try.func12, Try.ntmps12
          go_wp2
          go_loop [7, 8] (fun t i => ∃ (x : Int) (k : Nat), k ≤ n ∧ t = .int .i64 x ∧ i = .int .i64 k) (fun _ i => n - (intOf i).toNat)
          case atStart => exact ⟨_, 0, Nat.zero_le _, rfl, rfl⟩
          case round =>
            obtain ⟨x, k, hk, rfl, rfl⟩ := hrel
            by_cases hlt : k < n
            · obtain ⟨s, hcell⟩ := HC.out k hlt
              go_wp2
              · go_ret
                exact ⟨_, rfl, (fun h => absurd h Bool.false_ne_true), rfl⟩
              · go_ret
                exact ⟨_, rfl, (fun h => absurd h Bool.false_ne_true), rfl⟩
              · go_round
                case rel => exact ⟨_, k + 1, by omega, rfl, by go_num⟩
                case measure => simp [intOf]; omega
            · go_wp2
              go_ret
              exact ⟨_, rfl, (fun _ => by omega), rfl⟩
        · obtain rfl : n = 0 := by omega
          go_enter Try.func12, Try.ntmps12
          go_wp2
          refine wp_loop_rounds 1 ?_
          rw [rounds_succ]
          go_wp2
          go_ret
          exact ⟨_, rfl, (fun _ => by omega), rfl⟩

set_option maxRecDepth 100000 in
set_option maxHeartbeats 1000000 in
theorem zzBytes16_any (nm : ByteArray) (a : Option Addr) (n c : Nat) (i : Int) (w : World) (hm : nm.size ≤ maxLen) (hn : n ≤ maxLen) (hs : Src w a n) :
    Calls Try.prog 16 #[.string nm, .slice a n c, .int .i64 i] w (SomeBool (n ≤ 1048576) w) := by
  unfold maxLen at hm hn
  by_cases c1 : 1048576 < nm.size
  · go_enter Try.func16, Try.ntmps16
    go_wp2
    go_ret
    exact ⟨_, rfl, (fun h => absurd h Bool.false_ne_true), rfl⟩
  · by_cases c2 : 1048576 < n
    · go_enter Try.func16, Try.ntmps16
      go_wp2
      go_ret
      exact ⟨_, rfl, (fun h => absurd h Bool.false_ne_true), rfl⟩
    · by_cases c3 : 1048576 < nm.size + n
      · go_enter Try.func16, Try.ntmps16
        go_wp2
        go_ret
        exact ⟨_, rfl, (fun h => absurd h Bool.false_ne_true), rfl⟩
      · by_cases h0 : 0 < n
        · obtain ⟨b, off, rfl, hc⟩ := hs.spots h0
          have HC : Hid (∀ j, j < n → ∃ s : ByteArray, w.cell? ⟨b, off + j, none⟩ = some (.string s)) := hc
          clear hc hs
          go_enter Try.func16, Try.ntmps16
          go_wp2
          go_loop [7, 8] (fun t i => ∃ (x : Int) (k : Nat), k ≤ n ∧ t = .int .i64 x ∧ i = .int .i64 k) (fun _ i => n - (intOf i).toNat)
          case atStart => exact ⟨_, 0, Nat.zero_le _, rfl, rfl⟩
          case round =>
            obtain ⟨x, k, hk, rfl, rfl⟩ := hrel
            by_cases hlt : k < n
            · obtain ⟨s, hcell⟩ := HC.out k hlt
              go_wp2
              · go_ret
                exact ⟨_, rfl, (fun h => absurd h Bool.false_ne_true), rfl⟩
              · go_ret
                exact ⟨_, rfl, (fun h => absurd h Bool.false_ne_true), rfl⟩
              · go_round
                case rel => exact ⟨_, k + 1, by omega, rfl, by go_num⟩
                case measure => simp [intOf]; omega
            · go_wp2
              go_ret
              exact ⟨_, rfl, (fun _ => by omega), rfl⟩
        · obtain rfl : n = 0 := by omega
          go_enter Try.func16, Try.ntmps16
          go_wp2
          refine wp_loop_rounds 1 ?_
          rw [rounds_succ]
          go_wp2
          go_ret
          exact ⟨_, rfl, (fun _ => by omega), rfl⟩

set_option maxRecDepth 100000 in
set_option maxHeartbeats 1000000 in
theorem zzAbsent_some (nm : ByteArray) (a : Option Addr) (n c : Nat) (x : Int) (w : World) (h0 : 0 < n) (hn : n ≤ 1048576) :
    Calls Try.prog 14 #[.string nm, .slice a n c, .int .i64 x] w fun e w' => e = .returned (.bool false) ∧ Below w.heap.size w w' := by
  have hne : ((n : Int) == 0) = false := beq_eq_false_iff_ne.2 (by omega)
  go_enter Try.func14, Try.ntmps14
  go_wp2
  go_ret
  exact ⟨rfl, (Below.refl _ _).alloc (Nat.le_refl _) _⟩

set_option maxRecDepth 100000 in
set_option maxHeartbeats 1000000 in
theorem zzAbsent_none (nm : ByteArray) (a : Option Addr) (c : Nat) (x : Int) (w : World) :
    Calls Try.prog 14 #[.string nm, .slice a 0 c, .int .i64 x] w fun e w' => e = .returned (.bool true) ∧ Below w.heap.size w w' := by
  go_enter Try.func14, Try.ntmps14
  go_wp2
  go_ret
  exact ⟨rfl, (Below.refl _ _).alloc (Nat.le_refl _) _⟩

end Go.Proofs.Qxb6614160a
