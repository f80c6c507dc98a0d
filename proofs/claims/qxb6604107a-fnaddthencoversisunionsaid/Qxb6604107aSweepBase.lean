import Derived.Test.Qxb6604107aLess
namespace Go.Proofs.Qxb6604107a
open Go.ChangeShapes Go.WideShapes Go.ChangeAt Go.RowKit
set_option linter.unusedVariables false

theorem own_below {w w' : World} {base : Nat} {e : TypeId} {size n cap g B : Nat} {xs : List Value} (h : w.ownsRow base e size (.slice (some ⟨g, 0, none⟩) n cap) n xs) (hb : Below B w w') (hB : g < B) : w'.ownsRow base e size (.slice (some ⟨g, 0, none⟩) n cap) n xs := by
  refine ⟨h.1, ?_⟩
  rcases h.2 with ⟨h1, _⟩ | ⟨g', cap', cur, h1, h2, h3, h4⟩
  · cases h1
  · cases h1
    exact .inr ⟨g, cap, cur, rfl, h2, (hb.block g hB).trans h3, h4⟩

theorem own_lt {w : World} {base : Nat} {e : TypeId} {size n cap g : Nat} {xs : List Value} (h : w.ownsRow base e size (.slice (some ⟨g, 0, none⟩) n cap) n xs) : g < w.heap.size := (h.lt g rfl).2

theorem new_cells (w : World) (a b c : Value) : ∀ j u, [a, b, c][j]? = some u → (w.alloc (.cells #[a, b, c] 30)).cell? ((⟨w.heap.size, 0, none⟩ : Addr).add j) = some u := by
  intro j u hu
  have hj : j < 3 := by have := (List.getElem?_eq_some_iff.1 hu).1; simpa using this
  obtain ⟨h0, h1, h2⟩ := box_cells w a b c
  rw [Addr.add_lit]
  rcases lt3 hj with rfl | rfl | rfl
  · simp at hu; rw [← hu]; exact h0
  · simp at hu; rw [← hu]; exact h1
  · simp at hu; rw [← hu]; exact h2

theorem new_cells2 (w : World) (X : Obj) (a b c : Value) : ∀ j u, [a, b, c][j]? = some u → ((w.alloc X).alloc (.cells #[a, b, c] 30)).cell? ((⟨w.heap.size + 1, 0, none⟩ : Addr).add j) = some u := by
  have h := new_cells (w.alloc X) a b c
  rw [World.size_alloc] at h
  exact h

theorem new_cells3 (w : World) (X Y : Obj) (a b c : Value) : ∀ j u, [a, b, c][j]? = some u → (((w.alloc X).alloc Y).alloc (.cells #[a, b, c] 30)).cell? ((⟨w.heap.size + 2, 0, none⟩ : Addr).add j) = some u := by
  have h := new_cells ((w.alloc X).alloc Y) a b c
  rw [World.size_alloc, World.size_alloc] at h
  exact h

theorem three_at {w w' : World} {B b o : Nat} {v0 v1 v2 : Value} (h : Below B w w') (hb : b < B)
    (x0 : w.cell? ⟨b, o, none⟩ = some v0) (x1 : w.cell? ⟨b, o + 1, none⟩ = some v1) (x2 : w.cell? ⟨b, o + 2, none⟩ = some v2) :
    w'.cell? ⟨b, o, none⟩ = some v0 ∧ w'.cell? ⟨b, o + 1, none⟩ = some v1 ∧ w'.cell? ⟨b, o + 2, none⟩ = some v2 :=
  ⟨(h.cell (by exact hb)).trans x0, (h.cell (by exact hb)).trans x1, (h.cell (by exact hb)).trans x2⟩

/-- Behind an append of one entry. -/
theorem below_app {w w' : World} {o : Obj} {g B : Nat} (hg : (w.alloc o).grownBy w' (some g)) (hB : B ≤ w.heap.size) (hgB : B ≤ g) : Below B w w' :=
  ((Below.refl _ _).alloc hB o).grown hg (by simp; omega) (fun q e => by cases e; exact hgB)

theorem ecells_snoc (o : List En) (e : En) : ecells (o ++ [e]) = ecells o ++ [.string e.key, .int .i64 e.mn, .int .i64 e.mx] := by
  rw [ecells_append]; rfl

theorem three_one (k : ByteArray) (a b : Int) : ∀ u ∈ [Value.string k, .int .i64 a, .int .i64 b], u.oneCell' = true := by
  intro u hu
  simp at hu
  rcases hu with rfl | rfl | rfl <;> rfl

theorem nil_or_snoc (r : List En) : r = [] ∨ ∃ p a, r = p ++ [a] := by
  rcases List.eq_nil_or_concat r with h | ⟨p, a, h⟩
  · exact .inl h
  · exact .inr ⟨p, a, by rw [h, List.concat_eq_append]⟩

/-! ### The sweep's memory -/
structure SInv (w : World) (g1 g2 n : Nat) (O r : List En) (wr : World) : Prop where
  out : wr.ownsRow g1 30 3 (.slice (some ⟨g1, 0, none⟩) (n + 1) (n + 1)) (n + 1) (ecells O)
  res : wr.ownsRow g2 30 3 (.slice (some ⟨g2, 0, none⟩) r.length (n + 1)) r.length (ecells r)
  bel : Below w.heap.size w wr

theorem SInv.alloc {w : World} {g1 g2 n : Nat} {O r : List En} {wr : World} (h : SInv w g1 g2 n O r wr) (o : Obj) : SInv w g1 g2 n O r (wr.alloc o) :=
  ⟨h.out.alloc o, h.res.alloc o, h.bel.alloc h.bel.size o⟩

theorem SInv.app {w : World} {g1 g2 n : Nat} {O r : List En} {wr w3 : World} {x : En} (h : SInv w g1 g2 n O r wr) (h12 : g1 < g2) (hw : w.heap.size ≤ g1)
    (hown : w3.ownsRow g2 30 3 (.slice (some ⟨g2, 0, none⟩) (r.length + 1) (n + 1)) (r.length + 1) (ecells r ++ [.string x.key, .int .i64 x.mn, .int .i64 x.mx])) (hg : wr.grownBy w3 (some g2)) : SInv w g1 g2 n O (r ++ [x]) w3 := by
  have hl : (r ++ [x]).length = r.length + 1 := by simp
  refine ⟨h.out.kept hg (.inr ?_), ?_, h.bel.grown hg h.bel.size (fun q e => by cases e; omega)⟩
  · simp [Value.ownBlock]; omega
  · rw [hl, ecells_snoc]; exact hown

theorem SInv.app' {w : World} {g1 g2 n m : Nat} {O r : List En} {wr w3 : World} {x : En} (h : SInv w g1 g2 n O r wr) (hm : r.length = m) (h12 : g1 < g2) (hw : w.heap.size ≤ g1)
    (hown : w3.ownsRow g2 30 3 (.slice (some ⟨g2, 0, none⟩) (m + 1) (n + 1)) (m + 1) (ecells r ++ [.string x.key, .int .i64 x.mn, .int .i64 x.mx])) (hg : wr.grownBy w3 (some g2)) : SInv w g1 g2 n O (r ++ [x]) w3 := by
  subst hm
  exact h.app h12 hw hown hg

theorem ecells_put (p : List En) (a : En) (v : Int) : (ecells (p ++ [a])).set (p.length * 3 + 2) (.int .i64 v) = ecells (p ++ [⟨a.key, a.mn, v⟩]) := by
  rw [ecells_snoc, ecells_snoc, List.set_append_right _ _ (by rw [ecells_length]; omega), ecells_length, show p.length * 3 + 2 - p.length * 3 = 2 by omega]
  rfl

theorem SInv.put {w : World} {g1 g2 n : Nat} {O p : List En} {a : En} {wr : World} (h : SInv w g1 g2 n O (p ++ [a]) wr) (h12 : g1 < g2) (hw : w.heap.size ≤ g1) (v : Int) : SInv w g1 g2 n O (p ++ [⟨a.key, a.mn, v⟩]) (wr.setCell ⟨g2, p.length * 3 + 2, none⟩ (.int .i64 v)) := by
  obtain ⟨h1, h2⟩ := World.ownsRow.stored h.res (p.length * 3 + 2) (.int .i64 v)
  refine ⟨h.out.kept h2 (.inr ?_), ?_, h.bel.grown h2 h.bel.size (fun q e => by cases e; omega)⟩
  · simp [Value.ownBlock]; omega
  · rw [ecells_put] at h1
    have hl : (p ++ [a]).length = (p ++ [(⟨a.key, a.mn, v⟩ : En)]).length := by simp
    rw [← hl]
    exact h1

/-- The entries that the sweep reads. -/
theorem SInv.cells {w : World} {g1 g2 n : Nat} {O r : List En} {wr : World} (h : SInv w g1 g2 n O r wr) (hO : O.length = n + 1) (k : Nat) (hk : k < O.length) :
    wr.cell? ⟨g1, k * 3, none⟩ = some (.string O[k].key) ∧ wr.cell? ⟨g1, k * 3 + 1, none⟩ = some (.int .i64 O[k].mn) ∧ wr.cell? ⟨g1, k * 3 + 2, none⟩ = some (.int .i64 O[k].mx) := by
  have := ents_of_own h.out hO k hk
  unfold EAt at this
  simpa only [Nat.zero_add] using this

theorem SInv.last {w : World} {g1 g2 n : Nat} {O p : List En} {a : En} {wr : World} (h : SInv w g1 g2 n O (p ++ [a]) wr) :
    wr.cell? ⟨g2, p.length * 3, none⟩ = some (.string a.key) ∧ wr.cell? ⟨g2, p.length * 3 + 1, none⟩ = some (.int .i64 a.mn) ∧ wr.cell? ⟨g2, p.length * 3 + 2, none⟩ = some (.int .i64 a.mx) ∧ wr.frozen? ⟨g2, p.length * 3 + 2, none⟩ = false := by
  have := ents_of_own h.res rfl p.length (by simp)
  unfold EAt at this
  simp only [Nat.zero_add, List.getElem_concat_length] at this
  exact ⟨this.1, this.2.1, this.2.2, h.res.frozenAt _⟩

/-! ### Numbers -/
theorem insTo_mem {e : En} {l : List En} : ∀ (k : Nat), k ≤ l.length → ∀ x ∈ (insTo e l k).1, x = e ∨ x ∈ l
  | 0, _, x, h => by simp [insTo] at h
  | k + 1, hk, x, h => by
    have hg : l.getD k d0 ∈ l := by
      have : l.getD k d0 = l[k] := by simp [List.getD, show k < l.length by omega]
      rw [this]; exact List.getElem_mem _
    unfold insTo at h
    split at h
    · simp only [List.mem_append, List.mem_singleton] at h
      rcases h with (h | h) | h
      · exact insTo_mem k (by omega) x h
      · exact .inl h
      · exact .inr (h ▸ hg)
    · simp only [List.mem_append, List.mem_singleton] at h
      rcases h with h | h
      · exact insTo_mem k (by omega) x h
      · exact .inr (h ▸ hg)

theorem insE_mem {e : En} {l : List En} (x : En) (h : x ∈ insE e l) : x = e ∨ x ∈ l := by
  unfold insE at h
  split at h
  · exact insTo_mem _ (Nat.le_refl _) x h
  · simp only [List.mem_append, List.mem_singleton] at h
    rcases h with h | h
    · exact insTo_mem _ (Nat.le_refl _) x h
    · exact .inl h

theorem SweptTo.fit {o : List En} (hO : Fit o) : ∀ {k : Nat} {r : List En}, k ≤ o.length → SweptTo o k r → Fit r
  | 0, r, _, h => by have : r = [] := h; subst this; intro e he; simp at he
  | k + 1, r, hk, ⟨r0, h0, h1⟩ => by
    have ih := SweptTo.fit hO (by omega) h0
    have hx : Fit [o.getD k d0] := by
      intro e he
      simp only [List.mem_singleton] at he
      subst he
      have : o.getD k d0 = o[k] := by simp [List.getD, show k < o.length by omega]
      rw [this]; exact hO _ (List.getElem_mem _)
    have hx' := hx _ (List.mem_singleton.2 rfl)
    rcases h1 with ⟨p, a, rfl, _, rfl⟩ | ⟨_, rfl⟩
    · intro e he
      simp only [List.mem_append, List.mem_singleton] at he
      rcases he with he | rfl
      · exact ih e (by simp [he])
      · have ha := ih a (by simp)
        refine ⟨ha.1, ?_⟩
        show _ ≤ max _ _ ∧ max _ _ ≤ _
        omega
    · intro e he
      simp only [List.mem_append, List.mem_singleton] at he
      rcases he with he | rfl
      · exact ih e he
      · exact hx'

theorem Sweep.join {p : List En} {a x : En} {v : Int} (h : Joins a x) (hv : v = max a.mx x.mx) : Sweep (p ++ [a]) x (p ++ [⟨a.key, a.mn, v⟩]) := .inl ⟨p, a, rfl, h, by rw [hv]⟩
theorem Sweep.part {p : List En} {a x : En} (h : ¬ Joins a x) : Sweep (p ++ [a]) x (p ++ [a] ++ [x]) := .inr ⟨fun p' a' e => by
  have h2 := (List.append_inj' e rfl).2
  simp at h2
  rw [← h2]; exact h, rfl⟩
theorem Sweep.nil {x : En} : Sweep [] x ([] ++ [x]) := .inr ⟨fun p a e => by simp at e, rfl⟩

end Go.Proofs.Qxb6604107a
