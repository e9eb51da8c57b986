/-
  PLAIN: one key byte more raises the space by at least 1024 parts.
-/
import Derived.Test.Qxb6613518aSwapWalk
namespace Go.Proofs.Qxb6613518a

theorem uvN_mono {a b : Nat} (h : a ≤ b) (hb : b < 2097152) : uvN a ≤ uvN b := by
  rw [uvN_form (x := a) (by omega), uvN_form hb]
  split <;> split <;> (try split) <;> (try split) <;> omega

theorem space_step {M M' : Nat} (h : M + 1 ≤ M') (hb : M' ≤ 2097151) : spaceN M + 1024 ≤ spaceN M' ∧ spaceN M' ≤ 2199023255552 := by
  obtain ⟨p1, l1, u1⟩ := space_bounds M (by omega)
  obtain ⟨p2, l2, u2⟩ := space_bounds M' hb
  have hm := uvN_mono (a := M) (b := M') (by omega) (by omega)
  obtain ⟨s, hs⟩ : ∃ s, s = spaceN M := ⟨_, rfl⟩
  obtain ⟨s', hs'⟩ : ∃ s', s' = spaceN M' := ⟨_, rfl⟩
  rw [← hs] at l1 u1 ⊢
  rw [← hs'] at l2 u2 ⊢
  rcases p1 with e1 | e1 | e1 <;> rcases p2 with e2 | e2 | e2 <;> rw [e1] at l1 u1 hm <;> rw [e2] at l2 u2 hm <;> simp only [Nat.reduceSub] at l1 u1 l2 u2 <;> omega

/-- The record with one key byte more. -/
theorem rec_step (kl vl : Nat) (rev created number lease : Int) (hk : kl + vl ≤ 1048576) (h1 : Is64 rev) (h2 : Is64 created) (h3 : Is64 number) (h4 : Is64 lease) :
    ∃ M M' : Nat, recI kl vl rev created number lease + 13 = (M : Int) ∧ (recI kl vl rev created number lease).toNat + 13 = M ∧ (recI (kl + 1 : Nat) vl rev created number lease).toNat + 13 = M' ∧
      M ≤ 2097151 ∧ spaceN M + 1024 ≤ spaceN M' ∧ spaceN M' ≤ 2199023255552 := by
  obtain ⟨M, a1, a2, a3⟩ := rec_nat kl vl rev created number lease (by omega) h1 h2 h3 h4
  obtain ⟨M', b1, b2, b3⟩ := rec_nat (kl + 1) vl rev created number lease (by omega) h1 h2 h3 h4
  have hs : M + 1 ≤ M' := by
    have hm := uvN_mono (a := kl) (b := kl + 1) (by omega) (by omega)
    have e1 := uvI_nat kl
    have e2 := uvI_nat (kl + 1)
    unfold recI at a1 b1
    omega
  exact ⟨M, M', a1, a2, b2, a3, space_step hs b3⟩

end Go.Proofs.Qxb6613518a
