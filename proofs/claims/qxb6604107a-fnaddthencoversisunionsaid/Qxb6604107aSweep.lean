import Derived.Test.Qxb6604107aAddPlain
namespace Go.Proofs.Qxb6604107a
open Go.RowKit

theorem sweep_join {q r : List En} {a x : En} (h : Sweep (q ++ [a]) x r) (hj : Joins a x) : r = q ++ [⟨a.key, a.mn, max a.mx x.mx⟩] := by
  rcases h with ⟨p, b, e, _, rfl⟩ | ⟨h, _⟩
  · have h1 := (List.append_inj' e rfl).1
    have h2 := (List.append_inj' e rfl).2
    simp at h2
    rw [h1, h2]
  · exact absurd hj (h q a rfl)
theorem sweep_part {q r : List En} {a x : En} (h : Sweep (q ++ [a]) x r) (hj : ¬ Joins a x) : r = q ++ [a] ++ [x] := by
  rcases h with ⟨p, b, e, h, _⟩ | ⟨_, h⟩
  · have h2 := (List.append_inj' e rfl).2
    simp at h2
    rw [← h2] at h
    exact absurd h hj
  · exact h
theorem sweep_nil {r : List En} {x : En} (h : Sweep [] x r) : r = [x] := by
  rcases h with ⟨p, b, e, _, _⟩ | ⟨_, h⟩
  · simp at e
  · exact h

theorem Ahead.part {a b : En} (h : Ahead a b) : ¬ Joins a b := by
  rintro ⟨hk, h2⟩
  rcases h with h | h
  · rw [hk, cmpB_self] at h; omega
  · omega
theorem Pre.part {e a : En} (h : Pre e a) : ¬ Joins a e := by
  rintro ⟨hk, h2⟩
  rcases h with h | h
  · rw [hk, cmpB_self] at h; omega
  · omega

theorem lessE_true {e a : En} : lessE e a = true ↔ cmpB e.key a.key < 0 ∨ (cmpB e.key a.key = 0 ∧ e.mn < a.mn) := by
  unfold lessE
  by_cases h : cmpB e.key a.key = 0
  · simp [h]
  · simp [h]

theorem take_snoc {l : List En} {k : Nat} (h : k < l.length) : l.take (k + 1) = l.take k ++ [l.getD k d0] := by
  rw [gd h]; exact List.take_succ_eq_append_getElem h

/-- Where e is put. -/
structure Put (l : List En) (e : En) (i j p : Nat) (O : List En) : Prop where
  ip : i ≤ p
  pj : p ≤ j
  one : p = i ∨ p = i + 1
  at0 : p = i → i < j → e.mn ≤ (l.getD i d0).mn
  at1 : p = i + 1 → (l.getD i d0).mn ≤ e.mn
  lo : ∀ k, k < p → O.getD k d0 = l.getD k d0
  mid : O.getD p d0 = e
  hi : ∀ k, p < k → O.getD k d0 = l.getD (k - 1) d0
  len : O.length = l.length + 1

theorem put_of {l : List En} {e : En} {i j : Nat} (P : Place l e i j) : ∃ p, Put l e i j p (insE e l) := by
  obtain ⟨p, hp, h1, h2, h3⟩ := ins_place e l
  have hij := P.ij
  have hjl := P.jl
  have hef := P.efit
  have hip : i ≤ p := Nat.le_of_not_lt fun h => by
    have hl := h2 (by omega)
    rw [lessE_true] at hl
    have hq := cmpB_neg e.key (l.getD p d0).key
    have hf := P.fit p (by omega)
    rcases P.lo p h with hx | hx
    · rcases hl with hl | hl <;> omega
    · rcases hl with hl | hl <;> omega
  have hnl : ∀ t, t < p → i ≤ t → (l.getD t d0).key = e.key → (l.getD t d0).mn ≤ e.mn := by
    intro t ht hit hk
    have := h1 t ht
    by_cases hh : e.mn < (l.getD t d0).mn
    · have : lessE e (l.getD t d0) = true := lessE_true.2 (.inr ⟨by rw [hk]; exact cmpB_self _, hh⟩)
      simp_all
    · omega
  have hpj : p ≤ j := Nat.le_of_not_lt fun h => by
    have hl := h1 j h
    have hq := cmpB_neg e.key (l.getD j d0).key
    have hx := P.hi j hij (by omega)
    have hs := P.stop (by omega)
    by_cases c : cmpB e.key (l.getD j d0).key = 0
    · have hk : (l.getD j d0).key = e.key := (cmpB_eq c).symm
      have := hnl j h hij hk
      exact hs ⟨hk, .inl (by omega)⟩
    · by_cases c2 : cmpB e.key (l.getD j d0).key < 0
      · have : lessE e (l.getD j d0) = true := lessE_true.2 (.inl c2)
        simp_all
      · exact hx (.inl (by omega))
  have hone : p = i ∨ p = i + 1 := by
    by_cases c : p ≤ i + 1
    · omega
    · exfalso
      have hk0 := P.key i (Nat.le_refl _) (by omega)
      have hk1 := P.key (i + 1) (by omega) (by omega)
      have hg := P.gap i (i + 1) (by omega) (by omega) (hk0.trans hk1.symm)
      have hm := hnl (i + 1) (by omega) (by omega) hk1
      exact P.hi i (Nat.le_refl _) (by omega) (.inr ⟨by rw [hk0]; exact cmpB_self _, by omega⟩)
  refine ⟨p, hip, hpj, hone, ?_, ?_, ?_, ?_, ?_, ?_⟩
  · intro hpi hlt
    subst hpi
    have hl := h2 (by omega)
    rw [lessE_true] at hl
    have hk := P.key p (Nat.le_refl _) hlt
    rcases hl with hl | hl
    · rw [hk, cmpB_self] at hl; omega
    · omega
  · intro hpi
    exact hnl i (by omega) (Nat.le_refl _) (P.key i (Nat.le_refl _) (by omega))
  · intro k hk
    rw [h3]
    simp only [List.getD_eq_getElem?_getD]
    rw [List.getElem?_append_left (by simp; omega), List.getElem?_take_of_lt hk]
  · rw [h3]
    simp only [List.getD_eq_getElem?_getD]
    rw [List.getElem?_append_right (by simp; omega)]
    simp [Nat.min_eq_left hp]
  · intro k hk
    rw [h3]
    simp only [List.getD_eq_getElem?_getD]
    rw [List.getElem?_append_right (by simp; omega)]
    have : k - (l.take p).length = (k - 1 - p) + 1 := by simp [Nat.min_eq_left hp]; omega
    rw [this, List.getElem?_cons_succ, List.getElem?_drop, show p + (k - 1 - p) = k - 1 by omega]
  · exact insE_length e l

/-- The entry under the sweep's hand, when e and the entries up to t have been met. -/
def midE (l : List En) (e : En) (i p t : Nat) : En := ⟨e.key, if p = i then e.mn else (l.getD i d0).mn, if i < t then max e.mx (l.getD (t - 1) d0).mx else e.mx⟩

theorem swept_lo {l : List En} {e : En} {i j p : Nat} {O : List En} (P : Place l e i j) (U : Put l e i j p O) : ∀ k r, k ≤ p → SweptTo O k r → r = l.take k := by
  have hjl := P.jl
  have hpj := U.pj
  intro k
  induction k with
  | zero => intro r _ h; have : r = [] := h; subst this; simp
  | succ k ih =>
    rintro r hk ⟨r0, h0, h1⟩
    have e0 := ih r0 (by omega) h0
    subst e0
    rw [U.lo k (by omega)] at h1
    rw [take_snoc (by omega)]
    cases k with
    | zero => simp only [List.take_zero] at h1 ⊢; rw [sweep_nil h1]; rfl
    | succ q =>
      rw [take_snoc (by omega)] at h1 ⊢
      exact sweep_part h1 (P.can q (q + 1) (by omega) (by omega)).part

theorem swept_mid {l : List En} {e : En} {i j p : Nat} {O : List En} (P : Place l e i j) (U : Put l e i j p O) : ∀ d r, p + d ≤ j → SweptTo O (p + d + 1) r → r = l.take i ++ [midE l e i p (p + d)] := by
  have hjl := P.jl
  have hpj := U.pj
  have hip := U.ip
  intro d
  induction d with
  | zero =>
    rintro r _ ⟨r0, h0, h1⟩
    simp only [Nat.add_zero] at h0 h1 ⊢
    have e0 := swept_lo P U p r0 (Nat.le_refl _) h0
    subst e0
    rw [U.mid] at h1
    rcases U.one with hp | hp
    · subst hp
      have hm : midE l e p p p = e := by simp [midE]
      rw [hm]
      cases p with
      | zero => simp only [List.take_zero] at h1 ⊢; rw [sweep_nil h1]; rfl
      | succ q =>
        rw [take_snoc (by omega)] at h1 ⊢
        exact sweep_part h1 (P.lo q (by omega)).part
    · subst hp
      rw [take_snoc (by omega)] at h1
      have hk := P.key i (Nat.le_refl _) (by omega)
      have hj : Joins (l.getD i d0) e := ⟨hk, by
        have hx := P.hi i (Nat.le_refl _) (by omega)
        by_cases c : e.mn ≤ (l.getD i d0).mx
        · exact .inl c
        · by_cases c2 : (l.getD i d0).mx + 1 = e.mn
          · exact .inr c2
          · exact absurd (.inr ⟨by rw [hk]; exact cmpB_self _, by omega⟩) hx⟩
      rw [sweep_join h1 hj]
      simp only [midE, hk]
      congr 3
      · simp
      · rw [if_pos (by omega), Nat.add_sub_cancel]; omega
  | succ d ih =>
    rintro r hd ⟨r0, h0, h1⟩
    have e0 := ih r0 (by omega) h0
    subst e0
    rw [U.hi _ (by omega)] at h1
    have et : p + (d + 1) - 1 = p + d := by omega
    rw [et] at h1
    have ht := P.all (p + d) (by omega) (by omega)
    have hg : i < p + d → (l.getD (p + d - 1) d0).mx + 1 < (l.getD (p + d) d0).mn := fun h => P.gap (p + d - 1) (p + d) (by omega) (by omega) ((P.key _ (by omega) (by omega)).trans (P.key _ (by omega) (by omega)).symm)
    have hft := P.fit (p + d) (by omega)
    have hj : Joins (midE l e i p (p + d)) (l.getD (p + d) d0) := by
      refine ⟨ht.1.symm, ?_⟩
      simp only [midE]
      by_cases c : i < p + d
      · rw [if_pos c]
        have := hg c
        rcases ht.2 with h | h
        · exact .inl (by omega)
        · by_cases c2 : (l.getD (p + d - 1) d0).mx ≤ e.mx
          · exact .inr (by omega)
          · exact .inl (by omega)
      · rw [if_neg c]
        rcases ht.2 with h | h
        · exact .inl h
        · exact .inr (by omega)
    rw [sweep_join h1 hj]
    simp only [midE]
    congr 3
    rw [if_pos (show i < p + (d + 1) by omega), et]
    by_cases c : i < p + d
    · rw [if_pos c]
      have := hg c
      omega
    · rw [if_neg c]

theorem swept_hi {l : List En} {e : En} {i j p : Nat} {O : List En} (P : Place l e i j) (U : Put l e i j p O) : ∀ d r, j + d ≤ l.length → SweptTo O (j + d + 1) r → r = l.take i ++ [midE l e i p j] ++ (l.drop j).take d := by
  have hjl := P.jl
  have hpj := U.pj
  have hip := U.ip
  intro d
  induction d with
  | zero =>
    intro r _ h
    have := swept_mid P U (j - p) r (by omega) (by rw [show p + (j - p) + 1 = j + 1 by omega]; exact h)
    rw [this, show p + (j - p) = j by omega]
    simp
  | succ d ih =>
    rintro r hd ⟨r0, h0, h1⟩
    have e0 := ih r0 (by omega) h0
    subst e0
    rw [U.hi _ (by omega), show j + (d + 1) - 1 = j + d by omega] at h1
    have htd : (l.drop j).take (d + 1) = (l.drop j).take d ++ [l.getD (j + d) d0] := by
      rw [List.take_succ_eq_append_getElem (by simp; omega), List.getElem_drop, gd (by omega)]
    rw [htd]
    cases d with
    | zero =>
      simp only [List.take_zero, List.append_nil, Nat.add_zero, List.nil_append] at h1 ⊢
      refine sweep_part h1 ?_
      rintro ⟨hk, h2⟩
      simp only [midE] at hk h2
      have hs := P.stop (by omega)
      by_cases c : i < j
      · rw [if_pos c] at h2
        have hg := P.gap (j - 1) j (by omega) (by omega) ((P.key _ (by omega) (by omega)).trans hk)
        refine hs ⟨hk.symm, ?_⟩
        rcases h2 with h2 | h2
        · exact .inl (by omega)
        · exact .inr (by omega)
      · rw [if_neg c] at h2
        refine hs ⟨hk.symm, ?_⟩
        rcases h2 with h2 | h2
        · exact .inl h2
        · exact .inr (by omega)
    | succ q =>
      have htq : (l.drop j).take (q + 1) = (l.drop j).take q ++ [l.getD (j + q) d0] := by
        rw [List.take_succ_eq_append_getElem (by simp; omega), List.getElem_drop, gd (by omega)]
      rw [htq] at h1 ⊢
      rw [← List.append_assoc] at h1 ⊢
      rw [← List.append_assoc]
      exact sweep_part h1 (P.can (j + q) (j + (q + 1)) (by omega) (by omega)).part

/-- The model's answer is Add's. -/
theorem swept_all {l : List En} {e : En} {i j : Nat} (P : Place l e i j) {r : List En} (h : SweptTo (insE e l) (l.length + 1) r) : r = addOut l e i j := by
  obtain ⟨p, U⟩ := put_of P
  have hjl := P.jl
  have := swept_hi P U (l.length - j) r (by omega) (by rw [show j + (l.length - j) + 1 = l.length + 1 by omega]; exact h)
  rw [this]
  unfold addOut
  have hm : midE l e i p j = mrg l e i j := by
    unfold midE mrg
    by_cases c : i < j
    · rw [if_pos c, if_pos c]
      congr 1
      rcases U.one with hp | hp
      · rw [if_pos hp]
        have := U.at0 hp c
        omega
      · rw [if_neg (by omega)]
        have := U.at1 hp
        omega
    · rw [if_neg c, if_neg c]
      have hip := U.ip
      have hpj := U.pj
      rw [if_pos (by omega)]
  have ht : (l.drop j).take (l.length - j) = l.drop j := List.take_of_length_le (by simp)
  rw [hm, ht]

/-- Where an entry holds e the list is as it was. -/
theorem held_out {l : List En} {e : En} {i j : Nat} (P : Place l e i j) (h : Held l e i j) : addOut l e i j = l := by
  obtain ⟨hj, hi, h1, h2⟩ := h
  subst hj
  have hk := P.key i (Nat.le_refl _) (by omega)
  rw [gd hi] at hk
  have hm : mrg l e i (i + 1) = l[i] := by
    unfold mrg
    rw [if_pos (by omega), Nat.add_sub_cancel, gd hi, ← hk]
    have e1 : min e.mn l[i].mn = l[i].mn := by omega
    have e2 : max e.mx l[i].mx = l[i].mx := by omega
    rw [e1, e2]
  unfold addOut
  rw [hm, ← List.take_succ_eq_append_getElem hi, List.take_append_drop]

end Go.Proofs.Qxb6604107a
