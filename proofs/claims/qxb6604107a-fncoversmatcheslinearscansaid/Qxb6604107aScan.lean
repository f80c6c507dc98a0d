import Derived.Test.Qxb6604107aCovers
import Derived.Test.Qxb6604107aDisj
namespace Go.Proofs.Qxb6604107a
open Go.RowKit

theorem Disj.maxs_mono {mins maxs : List Int} {n : Nat} (h : Disj mins maxs n) (i j : Nat) (hij : i ≤ j) (hj : j < n) : maxs.getD i 0 ≤ maxs.getD j 0 := by
  induction j with
  | zero => obtain rfl : i = 0 := by omega
            exact Int.le_refl _
  | succ q ih =>
    by_cases e : i = q + 1
    · subst e; exact Int.le_refl _
    · have h1 := ih (by omega) (by omega)
      have h2 := h (q + 1) hj
      have h3 := h2.2 (by omega)
      simp only [Nat.add_sub_cancel] at h3
      omega

theorem Disj.gap {mins maxs : List Int} {n : Nat} (h : Disj mins maxs n) (i j : Nat) (hij : i < j) (hj : j < n) : maxs.getD i 0 < mins.getD j 0 := by
  have h1 := h.maxs_mono i (j - 1) (by omega) (by omega)
  have h2 := (h j hj).2 (by omega)
  omega

theorem ents_getD {keys : List ByteArray} {mins maxs : List Int} {n : Nat} (h0 : keys.length = n) (h1 : mins.length = n) (h2 : maxs.length = n) (i : Nat) (h : i < (ents keys mins maxs).length) :
    (ents keys mins maxs)[i].mn = mins.getD i 0 ∧ (ents keys mins maxs)[i].mx = maxs.getD i 0 := by
  have hn := ents_length h0 h1 h2
  rw [ents_get i h (by omega) (by omega) (by omega), getD_of (by omega), getD_of (by omega)]
  exact ⟨rfl, rfl⟩

theorem cmpT_neg {t : Int} {e : En} : cmpT t e < 0 ↔ e.mx < t := by
  unfold cmpT
  split
  · simp [*]
  · split <;> simp <;> omega

theorem cmpT_zero {t : Int} {e : En} : cmpT t e = 0 ↔ e.mn ≤ t ∧ t ≤ e.mx := by
  unfold cmpT
  split
  · simp; omega
  · split <;> simp <;> omega

theorem scan_mono {keys : List ByteArray} {mins maxs : List Int} {n : Nat} (h0 : keys.length = n) (h1 : mins.length = n) (h2 : maxs.length = n) (hD : Disj mins maxs n) (t : Int) : Mono (cmpT t) (ents keys mins maxs) := by
  intro i j hij hj hlt
  have hn := ents_length h0 h1 h2
  rw [cmpT_neg, (ents_getD h0 h1 h2 _ _).2] at *
  have := hD.maxs_mono i j hij (by omega)
  omega

theorem scan_found {keys : List ByteArray} {mins maxs : List Int} {n : Nat} (h0 : keys.length = n) (h1 : mins.length = n) (h2 : maxs.length = n) (hD : Disj mins maxs n) {t : Int} {i : Nat} {r : Bool}
    (hF : Found (cmpT t) (ents keys mins maxs) i r) : r = true ↔ ∃ j, j < n ∧ mins.getD j 0 ≤ t ∧ t ≤ maxs.getD j 0 := by
  have hn := ents_length h0 h1 h2
  rw [hF.hit]
  constructor
  · rintro ⟨h, hz⟩
    rw [cmpT_zero, (ents_getD h0 h1 h2 _ _).1, (ents_getD h0 h1 h2 _ _).2] at hz
    exact ⟨i, by omega, hz⟩
  · rintro ⟨j, hj, hz⟩
    have hjl : j < (ents keys mins maxs).length := by omega
    have hz' : cmpT t (ents keys mins maxs)[j] = 0 := by
      rw [cmpT_zero, (ents_getD h0 h1 h2 _ _).1, (ents_getD h0 h1 h2 _ _).2]; exact hz
    have hij : i ≤ j := Nat.le_of_not_lt fun h => by have := hF.lo j hjl h; omega
    by_cases e : i = j
    · subst e; exact ⟨hjl, hz'⟩
    · have hil : i < (ents keys mins maxs).length := by omega
      have h3 := hF.hi i hil (Nat.le_refl _)
      have h4 : ¬ cmpT t (ents keys mins maxs)[i] < 0 := by omega
      rw [cmpT_neg, (ents_getD h0 h1 h2 _ _).2] at h4
      have := hD.gap i j (by omega) (by omega)
      omega

/-- What the linear scan has seen behind k rounds. -/
def Seen (mins maxs : List Int) (t : Int) (k : Nat) (r : Bool) : Prop := r = true ↔ ∃ j, j < k ∧ mins.getD j 0 ≤ t ∧ t ≤ maxs.getD j 0

theorem Seen.zero (mins maxs : List Int) (t : Int) : Seen mins maxs t 0 false :=
  ⟨fun h => (by cases h), fun ⟨j, h, _⟩ => (by omega)⟩

theorem Seen.hit {mins maxs : List Int} {t : Int} {k : Nat} (h1 : mins.getD k 0 ≤ t) (h2 : t ≤ maxs.getD k 0) : Seen mins maxs t (k + 1) true :=
  ⟨fun _ => ⟨k, (by omega), h1, h2⟩, fun _ => rfl⟩

theorem Seen.miss {mins maxs : List Int} {t : Int} {k : Nat} {r : Bool} (h : Seen mins maxs t k r) (hn : ¬ (mins.getD k 0 ≤ t ∧ t ≤ maxs.getD k 0)) : Seen mins maxs t (k + 1) r := by
  refine h.trans ⟨fun ⟨j, hj, h'⟩ => ⟨j, by omega, h'⟩, fun ⟨j, hj, h'⟩ => ⟨j, ?_, h'⟩⟩
  have : j ≠ k := fun e => hn (e ▸ h')
  omega

end Go.Proofs.Qxb6604107a
