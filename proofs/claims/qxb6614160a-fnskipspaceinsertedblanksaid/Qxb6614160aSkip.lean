/-
  THE WALKS OF 'skipSpace' (17), 'ZZskipSpace' (8).
-/
import Derived.Test.Qxb6614160aProg
import Derived.Test.Qxb6614160aPlain
import Derived.WalkKit
import Derived.WalkSmall
import Derived.Deep.LoopGhost
import Derived.Deep.QuietTactic
import Derived.BigQuiet
namespace Go.Proofs.Qxb6614160a
open Go.RowKit

/-- No cell has been frozen or let go. -/
def SameMarks (w w' : World) : Prop := ∀ a, w'.frozen? a = w.frozen? a

theorem sp_yes {c : UInt8} (h : ((c.toNat : Int) == 32) = true ∨ ((c.toNat : Int) == 9) = true ∨ ((c.toNat : Int) == 10) = true ∨ ((c.toNat : Int) == 13) = true) : spB c = true := by
  simp only [beq_iff_eq] at h
  simp only [spB, Bool.or_eq_true, beq_iff_eq]
  omega

theorem sp_no {c : UInt8} (h1 : ((c.toNat : Int) == 32) = false) (h2 : ((c.toNat : Int) == 9) = false) (h3 : ((c.toNat : Int) == 10) = false) (h4 : ((c.toNat : Int) == 13) = false) : spB c = false := by
  simp only [beq_eq_false_iff_ne, ne_eq] at h1 h2 h3 h4
  simp only [spB, Bool.or_eq_false_iff, beq_eq_false_iff_ne, ne_eq]
  omega

theorem go_on (s : ByteArray) (j at0 : Nat) (h : j < s.size) (hc : spB s[j] = true) (HS : Hid (skipTo s.data.toList j = skipTo s.data.toList at0)) : Hid (skipTo s.data.toList (j + 1) = skipTo s.data.toList at0) :=
  (skipTo_go (l := s.data.toList) (j := j) (by simpa using h) hc).symm.trans HS.out

theorem stop_at (s : ByteArray) (j at0 : Nat) (h : j < s.size) (hc : spB s[j] = false) (HS : Hid (skipTo s.data.toList j = skipTo s.data.toList at0)) : skipTo s.data.toList at0 = j :=
  HS.out.symm.trans (skipTo_stop (l := s.data.toList) (j := j) (by simpa using h) hc)

theorem stop_end (s : ByteArray) (j at0 : Nat) (h : s.size ≤ j) (HS : Hid (skipTo s.data.toList j = skipTo s.data.toList at0)) : skipTo s.data.toList at0 = j :=
  HS.out.symm.trans (skipTo_end (l := s.data.toList) (j := j) (by simpa using h))

/-- 'd.at++'. -/
theorem at_step {s : ByteArray} {g j : Nat} {w wr : World} (c0 : wr.cell? ⟨g, 0, none⟩ = some (.string s)) (c2 : wr.cell? ⟨g, 2, none⟩ = some (.int .i64 j)) (cf : wr.frozen? ⟨g, 2, none⟩ = false) (hb : Below g w wr) (hm : SameMarks w wr) :
    (wr.setCell ⟨g, 2, none⟩ (.int .i64 ((j : Int) + 1))).cell? ⟨g, 0, none⟩ = some (.string s) ∧ (wr.setCell ⟨g, 2, none⟩ (.int .i64 ((j : Int) + 1))).cell? ⟨g, 2, none⟩ = some (.int .i64 ((j + 1 : Nat) : Int)) ∧
    (wr.setCell ⟨g, 2, none⟩ (.int .i64 ((j : Int) + 1))).frozen? ⟨g, 2, none⟩ = false ∧ Below g w (wr.setCell ⟨g, 2, none⟩ (.int .i64 ((j : Int) + 1))) ∧ SameMarks w (wr.setCell ⟨g, 2, none⟩ (.int .i64 ((j : Int) + 1))) :=
  ⟨by rw [World.cell?_setCell_other _ _ _ _ (by simp)]; exact c0, World.cell?_setCell_same _ _ _ c2, by rw [World.frozen?_setCell]; exact cf, hb.setCell (Nat.le_refl _) _, fun a => by rw [World.frozen?_setCell]; exact hm a⟩

set_option maxRecDepth 100000 in
set_option maxHeartbeats 1000000 in
theorem skipSpace_any (s : ByteArray) (at0 g : Nat) (w : World) (hs : s.size ≤ 1048576) (hat : at0 ≤ s.size)
    (h0 : w.cell? ⟨g, 0, none⟩ = some (.string s)) (h2 : w.cell? ⟨g, 2, none⟩ = some (.int .i64 at0)) (hf : w.frozen? ⟨g, 2, none⟩ = false) :
    Calls Try.prog 17 #[.pointer (some ⟨g, 0, none⟩)] w fun e w' => e = .returned (.tuple #[]) ∧ w'.cell? ⟨g, 2, none⟩ = some (.int .i64 (skipTo s.data.toList at0)) ∧ Below g w w' ∧ SameMarks w w' := by
  go_enter Try.func17, Try.ntmps17
  go_wp2
  go_loopg [11] (s.size - at0) (fun k _ wr => ∃ j : Nat, j ≤ s.size ∧ k = s.size - j ∧ wr.cell? ⟨g, 0, none⟩ = some (.string s) ∧ wr.cell? ⟨g, 2, none⟩ = some (.int .i64 j) ∧ wr.frozen? ⟨g, 2, none⟩ = false ∧
    Below g w wr ∧ SameMarks w wr ∧ Hid (skipTo s.data.toList j = skipTo s.data.toList at0))
  case atStart => exact ⟨at0, hat, rfl, h0, h2, hf, Below.refl _ _, fun _ => rfl, rfl⟩
  case round =>
    obtain ⟨j, hj, rfl, c0, c2, cf, hb, hm, HS⟩ := hrel
    clear h0 h2 hf
    by_cases hlt : j < s.size
    · have hlt' : (j : Int) < (s.size : Int) := by omega
      go_wp2
      go_quiet (fail)
      go_wp2
      go_quiet (fail)
      go_wp2
      rotate_right
      · refine bodyPost_ret (results_none rfl _ _ _) rfl ?_
        exact ⟨rfl, by rw [stop_at s j at0 hlt (sp_no ‹_› ‹_› ‹_› ‹_›) HS]; exact c2, below_drewN hb _, hm⟩
      all_goals
        have R := fun n => at_step (wr := wr.drewN n) c0 c2 cf (below_drewN hb n) hm
        go_roundg (s.size - (j + 1))
        case measure => omega
        case rel => exact ⟨j + 1, by omega, rfl, (R _).1, (R _).2.1, (R _).2.2.1, (R _).2.2.2.1, (R _).2.2.2.2, go_on s j at0 hlt (sp_yes (by simp only [*, true_or, or_true])) HS⟩
    · go_wp2
      go_quiet (fail)
      go_wp2
      go_end0
      exact ⟨rfl, by rw [stop_end s j at0 (by omega) HS]; exact c2, below_drewN hb _, hm⟩

/-- Of what was there nothing has turned. -/
def Grows (w w' : World) : Prop := Below w.heap.size w w' ∧ SameMarks w w'

theorem Grows.refl (w : World) : Grows w w := ⟨Below.refl _ _, fun _ => rfl⟩
theorem Grows.trans {a b c : World} (h : Grows a b) (k : Grows b c) : Grows a c := ⟨h.1.trans (k.1.mono h.1.size), fun x => (k.2 x).trans (h.2 x)⟩
theorem Grows.drewN {a b : World} (h : Grows a b) (n : Nat) : Grows a (b.drewN n) := ⟨below_drewN h.1 n, h.2⟩
theorem Grows.grown {w w' : World} (h : Grows w w') : Grown w w' := ⟨h.1.frame _, h.2, h.1.size⟩

set_option maxRecDepth 100000 in
set_option maxHeartbeats 1000000 in
theorem zzSkipSpace_any (s : ByteArray) (at0 : Nat) (w : World) (hs : s.size ≤ 1048576) (hat : at0 ≤ s.size) :
    Calls Try.prog 8 #[.string s, .int .i64 at0] w fun e w' => e = .returned (.int .i64 (skipTo s.data.toList at0)) ∧ Grows w w' := by
  go_enter Try.func8, Try.ntmps8
  go_wp2_with fail
  refine (skipSpace_any s at0 w.heap.size _ hs hat (by simp) (by simp) ?_).mono ?_
  · exact (((Grown.refl w).alloc _ _).2.1 _).trans (by simp [World.frozen?])
  rintro e w1 ⟨rfl, hc, hb, hm⟩
  go_wp2
  go_ret
  exact ⟨rfl, ((Below.refl _ _).alloc (Nat.le_refl _) _).trans hb, fun a => (hm a).trans (((Grown.refl w).alloc _ _).2.1 a)⟩

end Go.Proofs.Qxb6614160a
