/-
  THE WALKS OF encoding/binary.AppendUvarint (25), 'appendLaterPrefix' (23), 'openingLen' (21), 'RecordSpace' (19).
-/
import Derived.Test.Qxb6613518aBl
import Derived.Test.Qxb6613518aRow
namespace Go.Proofs.Qxb6613518a
open Go.RowKit

theorem size5o : (Try.prog.info? 5).map (·.size) = some 1 := by kernel_rfl

set_option maxRecDepth 100000 in
set_option maxHeartbeats 1000000 in
/-- Onto the first n cells of a row of the call's own, with room for all of x's groups. -/
theorem appendUvarint_any (g n cap N x : Nat) (te : TypeId) (w : World) (hrow : RowAt w g N te) (hroom : n + uvN x ≤ cap) (hfit : n + uvN x ≤ N) (hx : x ≤ 18446744073709551615) :
    Calls Try.prog 25 #[.slice (some ⟨g, 0, none⟩) n cap, .int .u64 x] w fun e w' => e = .returned (.slice (some ⟨g, 0, none⟩) (n + uvN x) cap) ∧ Below g w w' := by
  have hglt := hrow.lt
  go_enter Try.func25, Try.ntmps25
  go_wp2
  go_loopw [0, 1] (fun vb vx wr => ∃ y j : Nat, vx = .int .u64 y ∧ y ≤ x ∧ j + uvN y = uvN x ∧ vb = .slice (some ⟨g, 0, none⟩) (n + j) cap ∧ RowAt wr g N te ∧ Below g w wr) (fun _ vx _ => (intOf vx).toNat)
  case atStart => exact ⟨x, 0, rfl, Nat.le_refl _, by omega, rfl, hrow, Below.refl _ _⟩
  case round =>
    obtain ⟨y, j, rfl, hy, hs, rfl, hr, hb⟩ := hrel
    have hp := uvN_pos y
    have hj : n + j + 1 ≤ cap := by omega
    have hj2 : n + j + 1 ≤ N := by omega
    have HS : Hid (j + uvN y = uvN x) := hs
    have hgr := hr.lt
    clear hs hp
    by_cases h128 : 128 ≤ y
    · go_wp2_with (refine wpList_append_row rfl (.tmp 7) (.tmp 11) 22 rfl 5 Try.underlying22 size5o g (n + j) cap ⟨wr.heap.size, 0, none⟩ 1 1 rfl rfl N te (hr.alloc _) (Src.one _ _ rfl _) hj hj2 g w (hb.alloc (by omega) _) (Nat.le_refl _) ?_)
      intro w1 hr1 hb1 hk1 hs1
      clear hk1 hs1 hr hb
      go_wp2
      go_roundw
      case rel => exact ⟨y / 128, j + 1, by go_num, by omega, by have := HS.out; rw [uvN_big h128] at this; omega, rfl, hr1, hb1⟩
      case measure => simp [intOf]; omega
    · go_wp2_with (refine wpList_append_row rfl (.tmp 15) (.tmp 18) 22 rfl 5 Try.underlying22 size5o g (n + j) cap ⟨wr.heap.size, 0, none⟩ 1 1 rfl rfl N te (hr.alloc _) (Src.one _ _ rfl _) hj hj2 g w (hb.alloc (by omega) _) (Nat.le_refl _) ?_)
      intro w1 hr1 hb1 hk1 hs1
      clear hk1 hs1 hr hb
      go_wp2
      go_ret
      exact ⟨by have := HS.out; rw [uvN_small (by omega : y < 128)] at this; rw [← this]; rfl, hb1⟩

set_option maxRecDepth 100000 in
set_option maxHeartbeats 1000000 in
theorem appendLaterPrefix_any (g cap N own : Nat) (te : TypeId) (w : World) (hrow : RowAt w g N te) (hroom : 1 + uvN own ≤ cap) (hfit : 1 + uvN own ≤ N) (ho : own ≤ 2097151) :
    Calls Try.prog 23 #[.slice (some ⟨g, 0, none⟩) 0 cap, .int .i64 0, .int .i64 own] w fun e w' => e = .returned (.slice (some ⟨g, 0, none⟩) (1 + uvN own) cap) ∧ Below g w w' := by
  have hglt := hrow.lt
  have hp := uvN_pos own
  have hj : 0 + 1 ≤ cap := by omega
  have hj2 : 0 + 1 ≤ N := by omega
  go_enter Try.func23, Try.ntmps23
  go_wp2_with (refine wpList_append_row rfl (.tmp 7) (.tmp 8) 22 rfl 5 Try.underlying22 size5o g 0 cap ⟨w.heap.size, 0, none⟩ 1 1 rfl rfl N te (hrow.alloc _) (Src.one _ _ rfl _) hj hj2 g w ((Below.refl _ _).alloc (by omega) _) (Nat.le_refl _) ?_)
  intro w1 hr1 hb1 hk1 hs1
  clear hk1 hs1
  go_wp2_with fail
  refine (appendUvarint_any g 1 cap N own te _ hr1 hroom hfit (by omega)).mono ?_
  rintro e w' ⟨rfl, hb⟩
  go_wp2
  go_ret
  exact ⟨rfl, hb1.trans hb⟩

set_option maxRecDepth 100000 in
set_option maxHeartbeats 1000000 in
theorem openingLen_any (own : Nat) (w : World) (h0 : 0 < own) (ho : own ≤ 2097151) :
    Calls Try.prog 21 #[.int .i64 3, .int .i64 0, .int .i64 own] w fun e w' => e = .returned (.int .i64 (3 + uvN own)) ∧ Below w.heap.size w w' := by
  have h3 := uvN_le3 (x := own) (by omega)
  have hne : ((own : Int) == 0) = false := beq_eq_false_iff_ne.2 (by omega)
  go_enter Try.func21, Try.ntmps21
  go_wp2_with (first | (go_at_call 22; go_in) | (go_at_call 24; go_in))
  refine (appendLaterPrefix_any w.heap.size 11 11 own 42 _ (RowAt.new w _ 42 (by simp [Value.oneCell'])) (by omega) (by omega) ho).mono ?_
  rintro e w' ⟨rfl, hb⟩
  go_wp2
  go_ret
  exact ⟨ret_int (by omega), ((Below.refl _ _).alloc (Nat.le_refl _) _).trans hb⟩

/-- The space of a record of 'own' bytes, in 1/1024 of a byte. -/
def spaceN (own : Nat) : Nat := own * 524288 / (509 - uvN own)

theorem space_eq (m p : Nat) (hp : p = uvN m) (h3 : p ≤ 3) : (m : Int) * 512 * 1024 / (512 - (3 + p)) = (spaceN m : Int) := by
  unfold spaceN
  rw [← hp, Int.natCast_ediv]
  rw [show ((m * 524288 : Nat) : Int) = (m : Int) * 512 * 1024 by omega, show ((509 - p : Nat) : Int) = 512 - (3 + p) by omega]

set_option maxRecDepth 100000 in
set_option maxHeartbeats 1000000 in
theorem recordSpace_any (n : Nat) (w : World) (h0 : 0 < n) (hn : n ≤ 2097000) :
    Calls Try.prog 19 #[.int .i64 n] w fun e w' => e = .returned (.int .i64 (spaceN (n + 13))) ∧ Below w.heap.size w w' := by
  go_enter Try.func19, Try.ntmps19
  go_wp2_with fail
  rw [show (n : Int) + ((n : Int) + 67108864 - 1) / 67108864 * 12 + 1 = ((n + 13 : Nat) : Int) by omega]
  obtain ⟨m, hm⟩ : ∃ m : Nat, m = n + 13 := ⟨_, rfl⟩
  rw [← hm]
  have h1 : 0 < m := by omega
  have h2 : m ≤ 2097151 := by omega
  have HM : Hid (m = n + 13) := hm
  clear hm
  have h3 := uvN_le3 (x := m) (by omega)
  refine (openingLen_any m _ h1 h2).mono ?_
  rintro e w' ⟨rfl, hb⟩
  obtain ⟨p, hp⟩ : ∃ p : Nat, p = uvN m := ⟨_, rfl⟩
  rw [← hp] at h3 ⊢
  have HP : Hid (p = uvN m) := hp
  clear hp
  go_wp2
  go_ret
  exact ⟨ret_int (by rw [← HM.out]; exact space_eq m p HP.out h3), hb⟩

end Go.Proofs.Qxb6613518a
