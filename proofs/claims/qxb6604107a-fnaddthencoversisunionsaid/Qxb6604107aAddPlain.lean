import Derived.Test.Qxb6604107aSweepBase
namespace Go.Proofs.Qxb6604107a
open Go.RowKit

theorem gd {l : List En} {i : Nat} (h : i < l.length) : l.getD i d0 = l[i] := by simp [List.getD, h]

/-- a ends before e starts, and does not touch it; or is of a lesser key. -/
def Pre (e a : En) : Prop := cmpB a.key e.key < 0 ∨ (cmpB a.key e.key = 0 ∧ a.mx + 1 < e.mn)

theorem cmpA_neg {e a : En} : cmpA e a < 0 ↔ Pre e a := by
  unfold cmpA Pre
  by_cases h : cmpB a.key e.key = 0
  · simp only [h, ne_eq, not_true_eq_false, if_false]
    by_cases h2 : a.mx + 1 < e.mn
    · simp [h2]
    · simp [h2]
  · simp only [h, ne_eq, not_false_eq_true, if_true]
    simp

theorem Pre.ahead {e a b : En} (hb : b.mn ≤ b.mx) (h : Ahead a b) (k : Pre e b) : Pre e a := by
  rcases k with k | ⟨k1, k2⟩
  · exact .inl (cmpB_le_lt h.le k)
  · have e1 := cmpB_eq k1
    rcases h with h | ⟨h1, h2⟩
    · exact .inl (e1 ▸ h)
    · exact .inr ⟨e1 ▸ h1, by omega⟩

theorem canon_mono {l : List En} (h : Canon l) (e : En) : Mono (cmpA e) l := by
  intro i j hij hj hlt
  rw [cmpA_neg] at *
  by_cases hh : i = j
  · subst hh; exact hlt
  · exact hlt.ahead (h.fit j hj) (h.ahead i j (by omega) hj)

/-- The facts on e's place, by index. -/
structure Place (l : List En) (e : En) (i j : Nat) : Prop where
  can : ∀ s t, s < t → t < l.length → Ahead (l.getD s d0) (l.getD t d0)
  fit : ∀ t, t < l.length → (l.getD t d0).mn ≤ (l.getD t d0).mx
  efit : e.mn ≤ e.mx
  ij : i ≤ j
  jl : j ≤ l.length
  lo : ∀ t, t < i → Pre e (l.getD t d0)
  hi : ∀ t, i ≤ t → t < l.length → ¬ Pre e (l.getD t d0)
  all : ∀ t, i ≤ t → t < j → Touch e (l.getD t d0)
  stop : j < l.length → ¬ Touch e (l.getD j d0)

theorem place {l : List En} (h : Canon l) {e : En} (he : e.mn ≤ e.mx) {i j : Nat} {r : Bool} (hF : Found (cmpA e) l i r) (hR : Run l e i j) : Place l e i j where
  can s t hst ht := by rw [gd (by omega), gd ht]; exact h.ahead s t hst ht
  fit t ht := by rw [gd ht]; exact h.fit t ht
  efit := he
  ij := hR.ij
  jl := hR.jl
  lo t ht := by have := hF.le; rw [gd (by omega), ← cmpA_neg]; exact hF.lo t (by omega) ht
  hi t h1 h2 := by rw [gd h2, ← cmpA_neg]; have := hF.hi t h2 h1; omega
  all t h1 h2 := by have := hR.jl; rw [gd (by omega)]; exact hR.all t (by omega) h1 h2
  stop h := by rw [gd h]; exact hR.stop h

theorem Place.key {l : List En} {e : En} {i j : Nat} (P : Place l e i j) (t : Nat) (h1 : i ≤ t) (h2 : t < j) : (l.getD t d0).key = e.key := (P.all t h1 h2).1

/-- Two entries of one key. -/
theorem Place.gap {l : List En} {e : En} {i j : Nat} (P : Place l e i j) (s t : Nat) (hst : s < t) (ht : t < l.length) (hk : (l.getD s d0).key = (l.getD t d0).key) : (l.getD s d0).mx + 1 < (l.getD t d0).mn := by
  rcases P.can s t hst ht with h | h
  · rw [hk, cmpB_self] at h; omega
  · exact h.2

/-- Some entry of e's key holds e just where Add says that nothing has changed. -/
theorem Place.contained {l : List En} {e : En} {i j : Nat} (P : Place l e i j) : Held l e i j ↔ ∃ k, k < l.length ∧ (l.getD k d0).key = e.key ∧ (l.getD k d0).mn ≤ e.mn ∧ e.mx ≤ (l.getD k d0).mx := by
  have hef := P.efit
  constructor
  · rintro ⟨hj, hi, h1, h2⟩
    refine ⟨i, hi, P.key i (Nat.le_refl _) (by omega), ?_⟩
    rw [gd hi]; exact ⟨h1, h2⟩
  · rintro ⟨k, hk, hkey, h1, h2⟩
    have hik : i ≤ k := Nat.le_of_not_lt fun h => by
      rcases P.lo k h with hp | hp
      · rw [hkey, cmpB_self] at hp; omega
      · omega
    have hki : k = i := by
      by_cases hh : i = k
      · exact hh.symm
      · exfalso
        refine P.hi i (Nat.le_refl _) (by omega) ?_
        rcases P.can i k (by omega) hk with hp | hp
        · exact .inl (hkey ▸ hp)
        · exact .inr ⟨hkey ▸ hp.1, by omega⟩
    subst hki
    have hjl := P.jl
    have hij := P.ij
    have hj1 : k < j := by
      by_cases hh : k = j
      · exact absurd ⟨hkey, .inl (by omega)⟩ (hh ▸ P.stop (by omega))
      · omega
    have hj2 : j = k + 1 := by
      by_cases hh : j = k + 1
      · exact hh
      · exfalso
        have ht := P.all (k + 1) (by omega) (by omega)
        have hg := P.gap k (k + 1) (by omega) (by omega) (hkey.trans ht.1.symm)
        rcases ht.2 with ht | ht <;> omega
    rw [gd hk] at h1 h2
    exact ⟨hj2, hk, h1, h2⟩

/-- e's place among the entries. -/
theorem ins_place (e : En) (l : List En) : ∃ p, p ≤ l.length ∧ (∀ t, t < p → lessE e (l.getD t d0) = false) ∧ (p < l.length → lessE e (l.getD p d0) = true) ∧ insE e l = l.take p ++ e :: l.drop p := by
  have key : ∀ k, k ≤ l.length → ((∀ t, t < k → lessE e (l.getD t d0) = false) ∧ insTo e l k = (l.take k, false)) ∨
      (∃ p, p < k ∧ (∀ t, t < p → lessE e (l.getD t d0) = false) ∧ lessE e (l.getD p d0) = true ∧ insTo e l k = (l.take p ++ e :: (l.take k).drop p, true)) := by
    intro k
    induction k with
    | zero => intro _; exact .inl ⟨fun t h => by omega, by simp [insTo]⟩
    | succ k ih =>
      intro hk
      have htk : l.take (k + 1) = l.take k ++ [l.getD k d0] := by
        rw [gd (by omega)]; exact List.take_succ_eq_append_getElem (by omega)
      rcases ih (by omega) with ⟨h1, h2⟩ | ⟨p, hp, h1, h2, h3⟩
      · by_cases hl : lessE e (l.getD k d0) = true
        · refine .inr ⟨k, by omega, h1, hl, ?_⟩
          rw [insTo, h2, if_pos ⟨rfl, hl⟩, htk]
          rw [List.drop_append_of_le_length (by simp; omega)]
          simp
        · refine .inl ⟨fun t ht => ?_, ?_⟩
          · by_cases hh : t = k
            · subst hh; simpa using hl
            · exact h1 t (by omega)
          · rw [insTo, h2, if_neg (fun h => hl h.2), htk]
      · refine .inr ⟨p, by omega, h1, h2, ?_⟩
        rw [insTo, h3, if_neg (by simp), htk]
        rw [List.drop_append_of_le_length (by simp; omega)]
        simp
  rcases key l.length (Nat.le_refl _) with ⟨h1, h2⟩ | ⟨p, hp, h1, h2, h3⟩
  · refine ⟨l.length, Nat.le_refl _, h1, fun h => by omega, ?_⟩
    unfold insE
    rw [h2]
    simp
  · refine ⟨p, by omega, h1, fun _ => h2, ?_⟩
    unfold insE
    rw [h3]
    simp

end Go.Proofs.Qxb6604107a
