/-
  MEMORY, AS THE LAWS OF THE SEAT USE IT: a row of the call's own of which only its length and that it may be written is told ('RowAt'); a slice whose elements can be read ('Src'); 'copy' from the one into the other. No program in sight.
-/
import Derived.WalkKit
import Derived.Laws.CopyOwn
import Derived.Deep.OwnRows
namespace Go.Proofs.Qxb6613518a
open Go.RowKit

/-- Block g is a row of N cells of type t, none frozen, each holding a value of one cell. -/
def RowAt (w : World) (g N : Nat) (t : TypeId) : Prop :=
  ∃ cs : List Value, cs.length = N ∧ (∀ v ∈ cs, v.oneCell' = true) ∧ w.heap[g]? = some (.cells cs.toArray t (0, 0))

/-- The first n elements that begin at 'sp' can be read, each a value of one cell. -/
def Src (w : World) (sp : Option Addr) (n : Nat) : Prop :=
  0 < n → ∃ ad, sp = some ad ∧ ∀ j, j < n → ∃ v, w.cell? (ad.add j) = some v ∧ v.oneCell' = true

theorem RowAt.cell {w : World} {g N : Nat} {t : TypeId} (h : RowAt w g N t) {j : Nat} (hj : j < N) : ∃ v, w.cell? ⟨g, j, none⟩ = some v ∧ v.oneCell' = true := by
  obtain ⟨cs, hl, h1, hg⟩ := h
  have hj' : j < cs.length := by omega
  exact ⟨cs[j], by simp [World.cell?, hg, hj'], h1 _ (List.getElem_mem hj')⟩

theorem RowAt.frozen {w : World} {g N : Nat} {t : TypeId} (h : RowAt w g N t) (j : Nat) : w.frozen? ⟨g, j, none⟩ = false := by
  obtain ⟨cs, hl, h1, hg⟩ := h
  simp [World.frozen?, hg]

theorem RowAt.lt {w : World} {g N : Nat} {t : TypeId} (h : RowAt w g N t) : g < w.heap.size := by
  obtain ⟨cs, hl, h1, hg⟩ := h
  rcases Nat.lt_or_ge g w.heap.size with hlt | hge
  · exact hlt
  · rw [Array.getElem?_eq_none hge] at hg; cases hg

theorem RowAt.alloc {w : World} {g N : Nat} {t : TypeId} (h : RowAt w g N t) (o : Obj) : RowAt (w.alloc o) g N t := by
  have hlt := h.lt
  obtain ⟨cs, hl, h1, hg⟩ := h
  exact ⟨cs, hl, h1, by rw [Below.heap_alloc w o g hlt]; exact hg⟩

theorem RowAt.setCell {w : World} {g N : Nat} {t : TypeId} (h : RowAt w g N t) (j : Nat) (v : Value) (hv : v.oneCell' = true) : RowAt (w.setCell ⟨g, j, none⟩ v) g N t := by
  obtain ⟨cs, hl, h1, hg⟩ := h
  refine ⟨cs.set j v, by simpa using hl, fun u hu => ?_, ?_⟩
  · rcases List.mem_or_eq_of_mem_set hu with hu | rfl
    · exact h1 u hu
    · exact hv
  · rw [heap_setCell_same w g j cs.toArray t v hg]
    simp

theorem RowAt.made (w : World) (z : Value) (hz : z.oneCell' = true) (n : Nat) (t : TypeId) : RowAt (w.alloc (.cells (madeCells #[z] n) t)) w.heap.size n t := by
  refine ⟨(madeCells #[z] n).toList, by simp [madeCells], fun v hv => ?_, ?_⟩
  · simp [madeCells, Nat.mod_one] at hv
    rw [← hv.2]; exact hz
  · rw [Go.Deep.blk_alloc_new]

theorem RowAt.new (w : World) (c : Array Value) (t : TypeId) (h : ∀ v ∈ c.toList, v.oneCell' = true) : RowAt (w.alloc (.cells c t)) w.heap.size c.size t :=
  ⟨c.toList, by simp, h, by rw [Go.Deep.blk_alloc_new]⟩

theorem RowAt.below {w w' : World} {B g N : Nat} {t : TypeId} (h : RowAt w g N t) (hb : Below B w w') (hg : g < B) : RowAt w' g N t := by
  obtain ⟨cs, hl, h1, hh⟩ := h
  exact ⟨cs, hl, h1, (hb.block g hg).trans hh⟩

theorem RowAt.src {w : World} {g N : Nat} {t : TypeId} (h : RowAt w g N t) (off n : Nat) (hn : off + n ≤ N) : Src w (some ⟨g, off, none⟩) n := by
  intro _
  refine ⟨_, rfl, fun j hj => ?_⟩
  obtain ⟨v, hv, h1⟩ := h.cell (j := off + j) (by omega)
  refine ⟨v, ?_, h1⟩
  rw [← hv]
  congr 1
  unfold Addr.add
  split <;> simp_all

theorem Src.zero (w : World) (sp : Option Addr) : Src w sp 0 := fun h => absurd h (by omega)

theorem Src.below {w w' : World} {sp : Option Addr} {n : Nat} (h : Src w sp n) (hb : Below w.heap.size w w') : Src w' sp n := by
  intro hn
  obtain ⟨ad, rfl, hc⟩ := h hn
  refine ⟨ad, rfl, fun j hj => ?_⟩
  obtain ⟨v, hv, h1⟩ := hc j hj
  exact ⟨v, (hb.cell (block_lt_of_cell hv)).trans hv, h1⟩

theorem Src.alloc {w : World} {sp : Option Addr} {n : Nat} (h : Src w sp n) (o : Obj) : Src (w.alloc o) sp n :=
  h.below ((Below.refl _ _).alloc (Nat.le_refl _) o)

theorem Src.of_ints {w : World} {k : IntKind} {x : Addr} {zs : List Int} (h : ∀ i, i < zs.length → w.cell? (x.add i) = some (.int k (zs.getD i 0))) (n : Nat) (hn : n ≤ zs.length) : Src w (some x) n :=
  fun _ => ⟨x, rfl, fun j hj => ⟨_, h j (by omega), rfl⟩⟩

/-- One value, laid in a block of its own ('append(s, v)' lays v so). -/
theorem Src.one (w : World) (v : Value) (hv : v.oneCell' = true) (t : TypeId) : Src (w.alloc (.cells #[v] t)) (some ⟨w.heap.size, 0, none⟩) 1 :=
  fun _ => ⟨_, rfl, fun j hj => ⟨v, by
    obtain rfl : j = 0 := by omega
    have : (⟨w.heap.size, 0, none⟩ : Addr).add 0 = ⟨w.heap.size, 0, none⟩ := rfl
    rw [this, World.cell?_alloc_at _ _ _ _ rfl]; rfl, hv⟩⟩

/-- The cells that a copy takes over. -/
theorem Src.cells {w : World} {sp : Option Addr} {n : Nat} (h : Src w sp n) (m : Nat) (hm : m ≤ n) :
    ∃ cs : List Value, cs.length = m ∧ (∀ v ∈ cs, v.oneCell' = true) ∧ (0 < cs.length → ∃ ad, sp = some ad ∧ ∀ j v, cs[j]? = some v → w.cell? (ad.add j) = some v) := by
  by_cases h0 : 0 < m
  · obtain ⟨ad, rfl, hc⟩ := h (by omega)
    have hd : ∀ j, j < m → ((w.cell? (ad.add j)).getD (.bool false)).oneCell' = true ∧ w.cell? (ad.add j) = some ((w.cell? (ad.add j)).getD (.bool false)) := by
      intro j hj
      obtain ⟨v, hv, h1⟩ := hc j (by omega)
      rw [hv]
      exact ⟨h1, rfl⟩
    refine ⟨(List.range m).map fun j => (w.cell? (ad.add j)).getD (.bool false), by simp, fun v hv => ?_, fun _ => ⟨ad, rfl, fun j v hv => ?_⟩⟩
    · simp only [List.mem_map, List.mem_range] at hv
      obtain ⟨j, hj, rfl⟩ := hv
      exact (hd j hj).1
    · simp only [List.getElem?_map, Option.map_eq_some_iff] at hv
      obtain ⟨i, hi, rfl⟩ := hv
      rw [List.getElem?_eq_some_iff] at hi
      obtain ⟨hi, rfl⟩ := hi
      simp only [List.length_range] at hi
      rw [List.getElem_range]
      exact (hd j hi).2
  · obtain rfl : m = 0 := by omega
    exact ⟨[], rfl, by simp, by simp⟩

/-- 'copy(d, s)', d in a row of the call's own: the row stays a row; below B nothing has turned. -/
theorem wpList_copy_row {P : Program} {w : World} {ops : Array Oper} {rest : List Oper} {o : Oper} {a : Act} {Q : Exit → Act → World → Prop} (hgd : o.guard = none) (d s : Operand) (dT sT : TypeId)
    (ho : o.op = .call { callee := .builtin .copy, args := #[d, s], argTypes := #[dT, sT] }) (elem : TypeId) (hu : P.underlying dT = some (.slice elem)) (hsz : (P.info? elem).map (·.size) = some 1)
    (g off dLen dCap : Nat) (sp : Option Addr) (sLen sCap : Nat) (hd : a.eval d = .slice (some ⟨g, off, none⟩) dLen dCap) (hs : a.eval s = .slice sp sLen sCap)
    (N : Nat) (t : TypeId) (hrow : RowAt w g N t) (hsrc : Src w sp sLen) (hfit : off + Nat.min sLen dLen ≤ N) (B : Nat) (w0 : World) (hb : Below B w0 w) (hBg : B ≤ g)
    (h : ∀ w', RowAt w' g N t → Below B w0 w' → (∀ k, k ≠ g → w'.heap[k]? = w.heap[k]?) → w'.heap.size = w.heap.size → wpList P ops Q rest (a.put o.dst (goInt (Nat.min sLen dLen))) w') :
    wpList P ops Q (o :: rest) a w := by
  obtain ⟨cur, hl, h1, hg⟩ := hrow
  obtain ⟨cs, hcl, hc1, hcp⟩ := hsrc.cells (Nat.min sLen dLen) (Nat.min_le_left _ _)
  by_cases h0 : cs.length = 0
  · obtain rfl : cs = [] := List.eq_nil_of_length_eq_zero h0
    have hz : Nat.min sLen dLen = 0 := by simpa using hcl.symm
    refine wpList_copy_nothing hgd d s dT sT ho elem hu hsz _ _ _ _ _ _ hd hs hz ?_
    have := h w ⟨cur, hl, h1, hg⟩ hb (fun _ _ => rfl) rfl
    rw [hz] at this
    exact this
  · obtain ⟨ad, rfl, hcell⟩ := hcp (by omega)
    refine wpList_copy_own hgd d s dT sT ho elem hu hsz g off dLen dCap ad sLen sCap hd hs cur.toArray t hg cs hcl hcell (by simp; omega) hc1 ?_
    rw [hcl]
    refine h _ ⟨_, ?_, ?_, setRow_heap w g _ _ t _ hg⟩ (below_setRow hb hBg _) (fun k hk => setRow_other w g k _ hk) (by simp [World.setRow])
    · simp; omega
    · intro v hv
      simp only [List.mem_append] at hv
      rcases hv with hv | hv | hv
      · exact h1 v (List.mem_of_mem_take hv)
      · exact hc1 v hv
      · exact h1 v (List.mem_of_mem_drop hv)

theorem RowAt.setCells {g N : Nat} {t : TypeId} : ∀ (vs : List Value) (o : Nat) {w : World}, RowAt w g N t → (∀ v ∈ vs, v.oneCell' = true) → RowAt (w.setCells g o vs) g N t
  | [], _, _, h, _ => h
  | v :: r, o, _, h, h1 => RowAt.setCells r (o + 1) (h.setCell o v (h1 v (by simp))) (fun u hu => h1 u (by simp [hu]))

theorem below_setCells {B g : Nat} {w0 : World} (hBg : B ≤ g) : ∀ (vs : List Value) (o : Nat) {w : World}, Below B w0 w → Below B w0 (w.setCells g o vs)
  | [], _, _, h => h
  | v :: r, o, _, h => below_setCells hBg r (o + 1) (h.setCell (p := ⟨g, o, none⟩) hBg v)

theorem setCells_other {g k : Nat} (hk : k ≠ g) : ∀ (vs : List Value) (o : Nat) (w : World), (w.setCells g o vs).heap[k]? = w.heap[k]?
  | [], _, _ => rfl
  | v :: r, o, w => (setCells_other hk r (o + 1) _).trans (heap_setCell_other w ⟨g, o, none⟩ k v hk)

theorem setCells_size (g : Nat) : ∀ (vs : List Value) (o : Nat) (w : World), (w.setCells g o vs).heap.size = w.heap.size
  | [], _, _ => rfl
  | v :: r, o, w => (setCells_size g r (o + 1) _).trans (by simp [World.setCell])

/-- 'append(s, x...)', s the first n cells of a row of the call's own, with room: the row stays a row, the slice is longer; below B nothing has turned. -/
theorem wpList_append_row {P : Program} {w : World} {ops : Array Oper} {rest : List Oper} {o : Oper} {a : Act} {Q : Exit → Act → World → Prop} (hgd : o.guard = none) (s x : Operand) (t : TypeId)
    (ho : o.op = .call { callee := .builtin .append, args := #[s, x], argTypes := #[t, t] }) (e : TypeId) (ht : P.underlying t = some (.slice e)) (hsz : (P.info? e).map (·.size) = some 1)
    (g n cap : Nat) (ad : Addr) (m c : Nat) (hs : a.eval s = .slice (some ⟨g, 0, none⟩) n cap) (hx : a.eval x = .slice (some ad) m c)
    (N : Nat) (te : TypeId) (hrow : RowAt w g N te) (hsrc : Src w (some ad) m) (hroom : n + m ≤ cap) (hfit : n + m ≤ N) (B : Nat) (w0 : World) (hb : Below B w0 w) (hBg : B ≤ g)
    (h : ∀ w', RowAt w' g N te → Below B w0 w' → (∀ k, k ≠ g → w'.heap[k]? = w.heap[k]?) → w'.heap.size = w.heap.size → wpList P ops Q rest (a.put o.dst (.slice (some ⟨g, 0, none⟩) (n + m) cap)) w') :
    wpList P ops Q (o :: rest) a w := by
  obtain ⟨i, hi, hs1⟩ := Option.map_eq_some_iff.1 hsz
  obtain ⟨news, hl, h1, hp⟩ := hsrc.cells m (Nat.le_refl _)
  have hnews : ∀ j u, news[j]? = some u → w.cell? (ad.add j) = some u := by
    intro j u hj
    by_cases h0 : 0 < news.length
    · obtain ⟨ad', he, hc⟩ := hp h0
      cases he
      exact hc j u hj
    · obtain rfl : news = [] := List.eq_nil_of_length_eq_zero (by omega)
      simp at hj
  have hrun := run_append_room_cells (P := P) w t o.type e i ht hi g 0 n cap ad m c news (by rw [hs1, Nat.mul_one]; exact hl) hnews h1 hroom
    (fun j hj => by
      obtain ⟨v, hv, _⟩ := hrow.cell (j := n + j) (by omega)
      rw [hs1, Nat.mul_one, Nat.zero_add, hv]; rfl)
    (fun j hj => hrow.frozen _)
  refine wpList_plain hgd fun K hK => ?_
  unfold Oper.wp execOp
  simp only [ho, resolve, invoke, builtin, Sem.run_bind, Sem.run_pure, Result.andThen_ok, List.map_toArray, List.map_cons, List.map_nil, hs, hx, hrun]
  exact hK _ _ (h _ (RowAt.setCells news _ hrow h1) (below_setCells hBg news _ hb) (fun k hk => setCells_other hk news _ w) (setCells_size g news _ w))

end Go.Proofs.Qxb6613518a
