import Derived.Test.Qxb6604107aBase
namespace Go.Proofs.Qxb6604107a
open Go.RowKit

/-- The cells of a row of entries. -/
def ecells : List En → List Value
  | [] => []
  | e :: l => .string e.key :: .int .i64 e.mn :: .int .i64 e.mx :: ecells l

theorem ecells_length (l : List En) : (ecells l).length = l.length * 3 := by
  induction l with
  | nil => rfl
  | cons e l ih => simp [ecells, ih]; omega

theorem ecells_append (a b : List En) : ecells (a ++ b) = ecells a ++ ecells b := by
  induction a with
  | nil => rfl
  | cons e a ih => simp [ecells, ih]

theorem ecells_at (l : List En) : ∀ (j : Nat) (h : j < l.length), (ecells l)[j * 3]? = some (.string l[j].key) ∧ (ecells l)[j * 3 + 1]? = some (.int .i64 l[j].mn) ∧ (ecells l)[j * 3 + 2]? = some (.int .i64 l[j].mx) := by
  induction l with
  | nil => intro j h; simp at h
  | cons e l ih =>
    intro j h
    cases j with
    | zero => simp [ecells]
    | succ q =>
      have := ih q (by simpa using h)
      simp only [ecells, List.getElem_cons_succ]
      rw [show (q + 1) * 3 = q * 3 + 3 by omega]
      exact this

theorem ecells_one (l : List En) : ∀ u ∈ ecells l, u.oneCell' = true := by
  induction l with
  | nil => intro u hu; simp [ecells] at hu
  | cons e l ih =>
    intro u hu
    simp only [ecells, List.mem_cons] at hu
    rcases hu with rfl | rfl | rfl | hu
    · rfl
    · rfl
    · rfl
    · exact ih u hu

/-- From the row's cells to its entries. -/
theorem ents_of_own {w : World} {base g n cap : Nat} {l : List En} (h : w.ownsRow base 30 3 (.slice (some ⟨g, 0, none⟩) n cap) n (ecells l)) (hn : l.length = n) : Ents w g 0 l := by
  intro j hj
  have c := fun q hq => h.cellAt q hq
  obtain ⟨e0, e1, e2⟩ := ecells_at l j hj
  unfold EAt
  simp only [Nat.zero_add]
  rw [c _ (by omega), c _ (by omega), c _ (by omega)]
  exact ⟨e0, e1, e2⟩

/-- From the entries to the row's cells. -/
theorem cells_of_ents {w : World} {b off : Nat} {l : List En} (h : Ents w b off l) : ∀ j u, (ecells l)[j]? = some u → w.cell? ⟨b, off + j, none⟩ = some u := by
  intro j u hu
  have hj : j < (ecells l).length := (List.getElem?_eq_some_iff.1 hu).1
  rw [ecells_length] at hj
  have hq : j / 3 < l.length := by omega
  obtain ⟨e0, e1, e2⟩ := ecells_at l (j / 3) hq
  obtain ⟨c0, c1, c2⟩ := h (j / 3) hq
  rcases (by omega : j = j / 3 * 3 ∨ j = j / 3 * 3 + 1 ∨ j = j / 3 * 3 + 2) with e | e | e
  · rw [e] at hu ⊢
    rw [show off + j / 3 * 3 = off + j / 3 * 3 from rfl, c0]
    rw [e0] at hu; exact hu
  · rw [e] at hu ⊢
    rw [show off + (j / 3 * 3 + 1) = off + j / 3 * 3 + 1 by omega, c1]
    rw [e1] at hu; exact hu
  · rw [e] at hu ⊢
    rw [show off + (j / 3 * 3 + 2) = off + j / 3 * 3 + 2 by omega, c2]
    rw [e2] at hu; exact hu

/-- A part of a row of entries. -/
theorem Ents.drop {w : World} {b off : Nat} {l : List En} (h : Ents w b off l) (i : Nat) : Ents w b (off + i * 3) (l.drop i) := by
  intro j hj
  have hj' : i + j < l.length := by simp at hj; omega
  have := h (i + j) hj'
  unfold EAt at *
  rw [List.getElem_drop]
  rw [show off + i * 3 + j * 3 = off + (i + j) * 3 by omega]
  exact this

theorem Ents.take {w : World} {b off : Nat} {l : List En} (h : Ents w b off l) (i : Nat) : Ents w b off (l.take i) := by
  intro j hj
  rw [List.getElem_take]
  exact h j (by simp at hj; omega)

end Go.Proofs.Qxb6604107a
