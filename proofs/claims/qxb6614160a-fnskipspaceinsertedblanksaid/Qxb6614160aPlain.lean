/-
  THE PLAIN MATHEMATICS OF THE SEAT's FIRST TWO LAWS: where skipSpace stops. No Go in sight.
-/
namespace Go.Proofs.Qxb6614160a

/-- A blank of JSON's. -/
def spB (c : UInt8) : Bool := c.toNat == 32 || c.toNat == 9 || c.toNat == 10 || c.toNat == 13

/-- The first place from j on that holds no blank, or the end. -/
def skipTo (l : List UInt8) (j : Nat) : Nat := j + ((l.drop j).takeWhile spB).length

theorem skipTo_end {l : List UInt8} {j : Nat} (h : l.length ≤ j) : skipTo l j = j := by
  unfold skipTo
  rw [List.drop_eq_nil_of_le h]
  rfl

theorem skipTo_stop {l : List UInt8} {j : Nat} (h : j < l.length) (hc : spB l[j] = false) : skipTo l j = j := by
  unfold skipTo
  rw [List.drop_eq_getElem_cons h, List.takeWhile_cons, hc]
  rfl

theorem skipTo_go {l : List UInt8} {j : Nat} (h : j < l.length) (hc : spB l[j] = true) : skipTo l j = skipTo l (j + 1) := by
  unfold skipTo
  rw [List.drop_eq_getElem_cons h, List.takeWhile_cons, hc]
  simp
  omega

theorem skipTo_le {l : List UInt8} {j : Nat} (h : j ≤ l.length) : j ≤ skipTo l j ∧ skipTo l j ≤ l.length := by
  unfold skipTo
  have := (List.takeWhile_sublist spB (l := l.drop j)).length_le
  rw [List.length_drop] at this
  omega

/-- Behind a run of blanks: where a list's run ends. -/
theorem takeWhile_append_all {l m : List UInt8} (h : ∀ c ∈ l, spB c = true) : (l ++ m).takeWhile spB = l ++ m.takeWhile spB := by
  induction l with
  | nil => rfl
  | cons c l ih => rw [List.cons_append, List.takeWhile_cons, h c (by simp), if_pos rfl, ih (fun d hd => h d (by simp [hd])), List.cons_append]

theorem takeWhile_all {l : List UInt8} (h : ∀ c ∈ l, spB c = true) : l.takeWhile spB = l := by
  have := takeWhile_append_all (m := []) h
  simpa using this

theorem all_of_takeWhile {l : List UInt8} (h : (l.takeWhile spB).length = l.length) : ∀ c ∈ l, spB c = true := by
  induction l with
  | nil => simp
  | cons d l ih =>
    rw [List.takeWhile_cons] at h
    by_cases hd : spB d = true
    · rw [if_pos hd] at h
      intro c hc
      rcases List.mem_cons.1 hc with rfl | hc
      · exact hd
      · exact ih (by simpa using h) c hc
    · rw [if_neg hd] at h
      simp at h

theorem takeWhile_append_stop {l m : List UInt8} (h : (l.takeWhile spB).length < l.length) : (l ++ m).takeWhile spB = l.takeWhile spB := by
  induction l with
  | nil => simp at h
  | cons d l ih =>
    rw [List.cons_append, List.takeWhile_cons, List.takeWhile_cons]
    by_cases hd : spB d = true
    · rw [if_pos hd, if_pos hd]
      rw [List.takeWhile_cons, if_pos hd] at h
      rw [ih (by simpa using h)]
    · rw [if_neg hd, if_neg hd]

/-- THE FIRST LAW, where the run stops within a. -/
theorem join_stop {a b : List UInt8} {j : Nat} (hj : j ≤ a.length) (h : skipTo a j < a.length) : skipTo (a ++ b) j = skipTo a j := by
  unfold skipTo at h ⊢
  rw [List.drop_append_of_le_length hj, takeWhile_append_stop (by rw [List.length_drop]; omega)]

/-- .. where it comes to a's end. -/
theorem join_end {a b : List UInt8} {j : Nat} (hj : j ≤ a.length) (h : skipTo a j = a.length) : skipTo (a ++ b) j = a.length + skipTo b 0 := by
  unfold skipTo at h ⊢
  have hl : ((a.drop j).takeWhile spB).length = (a.drop j).length := by rw [List.length_drop]; omega
  rw [List.drop_append_of_le_length hj, takeWhile_append_all (all_of_takeWhile hl), List.length_append, List.length_drop, List.drop_zero]
  omega

theorem of_mem_takeWhile {l : List UInt8} {c : UInt8} (h : c ∈ l.takeWhile spB) : spB c = true := by
  induction l with
  | nil => simp at h
  | cons d l ih =>
    rw [List.takeWhile_cons] at h
    by_cases hd : spB d = true
    · rw [if_pos hd] at h
      rcases List.mem_cons.1 h with rfl | h
      · exact hd
      · exact ih h
    · rw [if_neg hd] at h
      simp at h

/-- What was passed over is blank. -/
theorem skipped_blank {a : List UInt8} {j : Nat} : ∀ c ∈ (a.drop j).take (skipTo a j - j), spB c = true := by
  unfold skipTo
  rw [Nat.add_sub_cancel_left]
  intro c hc
  have ht : (a.drop j).take ((a.drop j).takeWhile spB).length = (a.drop j).takeWhile spB := by
    generalize a.drop j = l
    induction l with
    | nil => rfl
    | cons d l ih =>
      rw [List.takeWhile_cons]
      by_cases hd : spB d = true
      · rw [if_pos hd, List.length_cons, List.take_succ_cons, ih]
      · rw [if_neg hd]; rfl
  rw [ht] at hc
  exact of_mem_takeWhile hc

/-- Where it stops within the text no blank stands. -/
theorem stop_noblank {a : List UInt8} {j : Nat} (h : skipTo a j < a.length) : spB a[skipTo a j] = false := by
  have key : ∀ (l : List UInt8) (h : (l.takeWhile spB).length < l.length), spB l[(l.takeWhile spB).length] = false := by
    intro l
    induction l with
    | nil => intro h; simp at h
    | cons d l ih =>
      intro h
      by_cases hd : spB d = true
      · have e : (d :: l).takeWhile spB = d :: l.takeWhile spB := by rw [List.takeWhile_cons, if_pos hd]
        have h2 : (l.takeWhile spB).length < l.length := by rw [e] at h; simpa using h
        have := ih h2
        simp only [e, List.length_cons, List.getElem_cons_succ]
        exact this
      · have e : (d :: l).takeWhile spB = [] := by rw [List.takeWhile_cons, if_neg hd]
        simp only [e, List.length_nil, List.getElem_cons_zero]
        simpa using hd
  have hj : j ≤ a.length := by unfold skipTo at h; omega
  have h2 : ((a.drop j).takeWhile spB).length < (a.drop j).length := by unfold skipTo at h; rw [List.length_drop]; omega
  have := key (a.drop j) h2
  rw [List.getElem_drop] at this
  exact this

/-- THE SECOND LAW: a run of blanks put in at j. -/
theorem insert_blank {a m : List UInt8} {j : Nat} (hj : j ≤ a.length) (hm : ∀ c ∈ m, spB c = true) : skipTo (a.take j ++ m ++ a.drop j) j = skipTo a j + m.length := by
  unfold skipTo
  rw [List.append_assoc, List.drop_append, List.length_take, Nat.min_eq_left hj, List.drop_eq_nil_of_le (by rw [List.length_take]; exact Nat.min_le_left _ _), Nat.sub_self, List.drop_zero, List.nil_append, takeWhile_append_all hm, List.length_append]
  omega

end Go.Proofs.Qxb6614160a
