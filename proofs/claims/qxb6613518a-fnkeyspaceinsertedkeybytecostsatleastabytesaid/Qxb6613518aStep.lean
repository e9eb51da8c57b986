/-
  'copy' AS ONE STEP OF A REGION THAT DRAWS ITS ORDER, in the words of Qxb6613518aRow; how a row stays a row while another is written. No program in sight.
-/
import Derived.Test.Qxb6613518aRow
import Derived.Deep.RegionLaw
namespace Go.Proofs.Qxb6613518a
open Go.RowKit

theorem RowAt.other {w w' : World} {g g' N : Nat} {t : TypeId} (h : RowAt w g N t) (hk : ∀ k, k ≠ g' → w'.heap[k]? = w.heap[k]?) (hne : g ≠ g') : RowAt w' g N t := by
  obtain ⟨cs, hl, h1, hg⟩ := h
  exact ⟨cs, hl, h1, (hk g hne).trans hg⟩

theorem RowAt.setOther {w : World} {g N : Nat} {t : TypeId} (h : RowAt w g N t) (a : Addr) (v : Value) (hne : g ≠ a.block) : RowAt (w.setCell a v) g N t := by
  obtain ⟨cs, hl, h1, hg⟩ := h
  exact ⟨cs, hl, h1, (heap_setCell_other w a g v hne).trans hg⟩

theorem RowAt.drew {w : World} {g N : Nat} {t : TypeId} (h : RowAt w g N t) : RowAt w.drew g N t := h

theorem step_copy_row {P : Program} {ops : Array Oper} {o : Oper} {a : Act} {w : World} {K : Act → World → Prop} {Q : Exit → Act → World → Prop} {E : Prop} (hgd : o.guard = none) (d s : Operand) (dT sT : TypeId)
    (ho : o.op = .call { callee := .builtin .copy, args := #[d, s], argTypes := #[dT, sT] }) (elem : TypeId) (hu : P.underlying dT = some (.slice elem)) (hsz : (P.info? elem).map (·.size) = some 1)
    (g off dLen dCap : Nat) (sp : Option Addr) (sLen sCap : Nat) (hd : a.eval d = .slice (some ⟨g, off, none⟩) dLen dCap) (hs : a.eval s = .slice sp sLen sCap)
    (N : Nat) (t : TypeId) (hrow : RowAt w g N t) (hsrc : Src w sp sLen) (hfit : off + Nat.min sLen dLen ≤ N) (B : Nat) (w0 : World) (hb : Below B w0 w) (hBg : B ≤ g)
    (h : ∀ w', RowAt w' g N t → Below B w0 w' → (∀ k, k ≠ g → w'.heap[k]? = w.heap[k]?) → w'.heap.size = w.heap.size → K (a.put o.dst (goInt (Nat.min sLen dLen))) w') :
    if Region.wanted o (yielded ops a.tmps) = true then Oper.wp P o a w K Q else E := by
  have hw : Region.wanted o (yielded ops a.tmps) = true := by simp [Region.wanted, hgd]
  rw [if_pos hw]
  obtain ⟨cur, hl, h1, hg⟩ := hrow
  obtain ⟨cs, hcl, hc1, hcp⟩ := hsrc.cells (Nat.min sLen dLen) (Nat.min_le_left _ _)
  by_cases h0 : cs.length = 0
  · obtain rfl : cs = [] := List.eq_nil_of_length_eq_zero h0
    have hz : Nat.min sLen dLen = 0 := by simpa using hcl.symm
    have hrun := run_copy_none (P := P) w dT sT o.type elem (some ⟨g, off, none⟩) sp dLen dCap sLen sCap hu hsz hz
    have h' := h w ⟨cur, hl, h1, hg⟩ hb (fun _ _ => rfl) rfl
    rw [hz] at h'
    unfold Oper.wp
    simp [execOp, ho, resolve, invoke, builtin, hd, hs, hrun, Result.andThen]
    exact h'
  · obtain ⟨ad, rfl, hcell⟩ := hcp (by omega)
    have hrun := run_copy_row (P := P) w dT sT o.type elem g off dLen dCap ad sLen sCap cur.toArray t cs hu hsz hg hcl hcell (by simp; omega) hc1
    have h' : K (a.put o.dst (goInt cs.length)) (w.setRow g (cur.take off ++ (cs ++ cur.drop (off + cs.length))).toArray) := by
      have e : (cs.length : Int) = ((Nat.min sLen dLen : Nat) : Int) := by rw [hcl]
      rw [e]
      refine h _ ⟨_, ?_, ?_, setRow_heap w g _ _ t _ hg⟩ (below_setRow hb hBg _) (fun k hk => setRow_other w g k _ hk) (by simp [World.setRow])
      · simp; omega
      · intro v hv
        simp only [List.mem_append] at hv
        rcases hv with hv | hv | hv
        · exact h1 v (List.mem_of_mem_take hv)
        · exact hc1 v hv
        · exact h1 v (List.mem_of_mem_drop hv)
    unfold Oper.wp
    simp [execOp, ho, resolve, invoke, builtin, hd, hs, hrun, Result.andThen]
    exact h'

end Go.Proofs.Qxb6613518a
