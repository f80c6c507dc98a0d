import Derived.Test.Qxb6604107aAddPlain
import Derived.Test.Qxb6604107aOfKey
namespace Go.Proofs.Qxb6604107a
open Go.RowKit

/-! ### Keys and their successors -/
theorem cb_zero_byte : ∀ x k : List UInt8, Lib.compareBytes x (k ++ [0]) < 0 ↔ Lib.compareBytes x k ≤ 0
  | [], [] => by simp [Lib.compareBytes]
  | [], _ :: _ => by simp [Lib.compareBytes]
  | a :: x, [] => by
    have h1 : ¬ a < 0 := by simp
    simp only [List.nil_append, Lib.compareBytes, if_neg h1]
    by_cases h2 : 0 < a
    · rw [if_pos h2]; simp
    · rw [if_neg h2]
      cases x <;> simp [Lib.compareBytes]
  | a :: x, b :: k => by
    have ih := cb_zero_byte x k
    simp only [List.cons_append, Lib.compareBytes]
    by_cases h1 : a < b
    · simp [if_pos h1]
    · rw [if_neg h1, if_neg h1]
      by_cases h2 : b < a
      · simp [if_pos h2]
      · rw [if_neg h2, if_neg h2]; exact ih

theorem cmpB_zero (x k : ByteArray) : cmpB x (key0 k) < 0 ↔ cmpB x k ≤ 0 := by
  have := cb_zero_byte x.data.toList k.data.toList
  unfold cmpB key0
  simpa using this

/-! ### Lists in file order, pairwise -/
def PW (l : List En) : Prop := l.Pairwise Ahead ∧ ∀ x ∈ l, x.mn ≤ x.mx

theorem Canon.pw {l : List En} (h : Canon l) : PW l := by
  refine ⟨?_, fun x hx => ?_⟩
  · rw [List.pairwise_iff_getElem]
    intro i j hi hj hij
    exact h.ahead i j hij hj
  · obtain ⟨i, hi, rfl⟩ := List.getElem_of_mem hx
    exact h.fit i hi

theorem PW.get {l : List En} (h : PW l) (i j : Nat) (hij : i < j) (hj : j < l.length) : Ahead (l[i]'(by omega)) l[j] :=
  (List.pairwise_iff_getElem.1 h.1) i j (by omega) hj hij

theorem PW.key_le {l : List En} (h : PW l) (i j : Nat) (hij : i ≤ j) (hj : j < l.length) : cmpB (l[i]'(by omega)).key l[j].key ≤ 0 := by
  by_cases e : i = j
  · subst e; rw [cmpB_self]; omega
  · exact (h.get i j (by omega) hj).le

theorem PW.monoK {l : List En} (h : PW l) (key : ByteArray) : Mono (cmpK key) l := by
  intro i j hij hj hlt
  exact cmpB_le_lt (h.key_le i j hij hj) hlt

theorem PW.drop {l : List En} (h : PW l) (i : Nat) : PW (l.drop i) := ⟨h.1.sublist (List.drop_sublist i l), fun x hx => h.2 x (List.mem_of_mem_drop hx)⟩
theorem PW.take {l : List En} (h : PW l) (i : Nat) : PW (l.take i) := ⟨h.1.sublist (List.take_sublist i l), fun x hx => h.2 x (List.mem_of_mem_take hx)⟩

/-- What OfKey hands back: the entries of the key. -/
theorem ofKey_mem {l : List En} {key : ByteArray} {i j : Nat} {r1 r2 : Bool} (h1 : Found (cmpK key) l i r1) (h2 : Found (cmpK (key0 key)) (l.drop i) j r2) (x : En) :
    x ∈ (l.drop i).take j ↔ x ∈ l ∧ x.key = key := by
  have hi := h1.le
  have hj := h2.le
  rw [List.length_drop] at hj
  have hiff : ∀ t (ht : t < l.length), (i ≤ t ∧ t < i + j) ↔ l[t].key = key := by
    intro t ht
    constructor
    · rintro ⟨ha, hb⟩
      have e1 := h1.hi t ht ha
      have e2 := h2.lo (t - i) (by simp; omega) (by omega)
      rw [List.getElem_drop] at e2
      simp only [show i + (t - i) = t by omega] at e2
      unfold cmpK at e1 e2
      rw [cmpB_zero] at e2
      exact cmpB_eq (by omega)
    · intro hk
      refine ⟨Nat.le_of_not_lt fun h => ?_, Nat.lt_of_not_le fun h => ?_⟩
      · have := h1.lo t ht h
        unfold cmpK at this
        rw [hk, cmpB_self] at this
        omega
      · have := h2.hi (t - i) (by simp; omega) (by omega)
        rw [List.getElem_drop] at this
        simp only [show i + (t - i) = t by omega] at this
        unfold cmpK at this
        have h3 : ¬ cmpB l[t].key (key0 key) < 0 := by omega
        rw [cmpB_zero, hk, cmpB_self] at h3
        omega
  constructor
  · intro hx
    obtain ⟨q, hq, rfl⟩ := List.getElem_of_mem hx
    have hq' : q < j ∧ i + q < l.length := by simp at hq; omega
    rw [List.getElem_take, List.getElem_drop]
    exact ⟨List.getElem_mem _, (hiff (i + q) hq'.2).1 ⟨by omega, by omega⟩⟩
  · rintro ⟨hx, hk⟩
    obtain ⟨t, ht, rfl⟩ := List.getElem_of_mem hx
    obtain ⟨ha, hb⟩ := (hiff t ht).2 hk
    have hlt : t - i < ((l.drop i).take j).length := by simp; omega
    have : ((l.drop i).take j)[t - i] = l[t] := by
      rw [List.getElem_take, List.getElem_drop]
      congr 1
      omega
    rw [← this]
    exact List.getElem_mem _

/-- Entries of one key, in order. -/
def Row1 (f : List En) : Prop := (∀ i j (h : i < j) (hj : j < f.length), (f[i]'(by omega)).mx < f[j].mn) ∧ ∀ x ∈ f, x.mn ≤ x.mx

theorem PW.row1 {f : List En} (h : PW f) {key : ByteArray} (hk : ∀ x ∈ f, x.key = key) : Row1 f := by
  refine ⟨fun i j hij hj => ?_, h.2⟩
  have e1 := hk _ (List.getElem_mem (show i < f.length by omega))
  have e2 := hk _ (List.getElem_mem hj)
  rcases h.get i j hij hj with hh | hh
  · rw [e1, e2, cmpB_self] at hh; omega
  · omega

theorem cmpT_neg' {t : Int} {e : En} : cmpT t e < 0 ↔ e.mx < t := by
  unfold cmpT
  split
  · simp [*]
  · split <;> simp <;> omega
theorem cmpT_zero' {t : Int} {e : En} : cmpT t e = 0 ↔ e.mn ≤ t ∧ t ≤ e.mx := by
  unfold cmpT
  split
  · simp; omega
  · split <;> simp <;> omega

theorem Row1.mono {f : List En} (h : Row1 f) (t : Int) : Mono (cmpT t) f := by
  intro i j hij hj hlt
  rw [cmpT_neg'] at *
  by_cases e : i = j
  · subst e; exact hlt
  · have h1 := h.1 i j (by omega) hj
    have h2 := h.2 _ (List.getElem_mem hj)
    omega

theorem Row1.found {f : List En} (h : Row1 f) {t : Int} {i : Nat} {r : Bool} (hF : Found (cmpT t) f i r) : r = true ↔ ∃ x ∈ f, x.mn ≤ t ∧ t ≤ x.mx := by
  rw [hF.hit]
  constructor
  · rintro ⟨hi, hz⟩
    exact ⟨_, List.getElem_mem hi, cmpT_zero'.1 hz⟩
  · rintro ⟨x, hx, hz⟩
    obtain ⟨j, hj, rfl⟩ := List.getElem_of_mem hx
    have hz' := cmpT_zero'.2 hz
    have hij : i ≤ j := Nat.le_of_not_lt fun hh => by have := hF.lo j hj hh; omega
    by_cases e : i = j
    · subst e; exact ⟨hj, hz'⟩
    · have h3 := hF.hi i (by omega) (Nat.le_refl _)
      have h4 : ¬ cmpT t (f[i]'(by omega)) < 0 := by omega
      rw [cmpT_neg'] at h4
      have := h.1 i j (by omega) hj
      omega

/-- The entries of key cover t. -/
def Cov (l : List En) (key : ByteArray) (t : Int) : Prop := ∃ x ∈ l, x.key = key ∧ x.mn ≤ t ∧ t ≤ x.mx

theorem cov_of {l : List En} (h : PW l) {key : ByteArray} {t : Int} {i j k : Nat} {r1 r2 r : Bool} (h1 : Found (cmpK key) l i r1) (h2 : Found (cmpK (key0 key)) (l.drop i) j r2) :
    Row1 ((l.drop i).take j) ∧ (Found (cmpT t) ((l.drop i).take j) k r → (r = true ↔ Cov l key t)) := by
  have hm := ofKey_mem h1 h2
  have hr : Row1 ((l.drop i).take j) := ((h.drop i).take j).row1 (key := key) fun x hx => ((hm x).1 hx).2
  refine ⟨hr, fun hF => (hr.found hF).trans ?_⟩
  constructor
  · rintro ⟨x, hx, hz⟩
    obtain ⟨a, b⟩ := (hm x).1 hx
    exact ⟨x, a, b, hz⟩
  · rintro ⟨x, hx, hk, hz⟩
    exact ⟨x, (hm x).2 ⟨hx, hk⟩, hz⟩

/-! ### Add's list -/
theorem mem_take_gd {l : List En} {i : Nat} {x : En} (h : x ∈ l.take i) : ∃ t, t < i ∧ t < l.length ∧ x = l.getD t d0 := by
  obtain ⟨t, ht, rfl⟩ := List.getElem_of_mem h
  have ht' : t < i ∧ t < l.length := by simp at ht; omega
  exact ⟨t, ht'.1, ht'.2, by rw [List.getElem_take, gd ht'.2]⟩
theorem mem_drop_gd {l : List En} {i : Nat} {x : En} (h : x ∈ l.drop i) : ∃ t, i ≤ t ∧ t < l.length ∧ x = l.getD t d0 := by
  obtain ⟨t, ht, rfl⟩ := List.getElem_of_mem h
  have ht' : i + t < l.length := by simp at ht; omega
  exact ⟨i + t, by omega, ht', by rw [List.getElem_drop, gd ht']⟩

theorem mrg_key (l : List En) (e : En) (i j : Nat) : (mrg l e i j).key = e.key := by unfold mrg; split <;> rfl
theorem mrg_mn (l : List En) (e : En) (i j : Nat) : (mrg l e i j).mn = if i < j then min e.mn (l.getD i d0).mn else e.mn := by unfold mrg; split <;> rfl
theorem mrg_mx (l : List En) (e : En) (i j : Nat) : (mrg l e i j).mx = if i < j then max e.mx (l.getD (j - 1) d0).mx else e.mx := by unfold mrg; split <;> rfl

theorem Place.lo_ahead {l : List En} {e : En} {i j : Nat} (P : Place l e i j) (t : Nat) (ht : t < i) : Ahead (l.getD t d0) (mrg l e i j) := by
  unfold Ahead
  rw [mrg_key, mrg_mn]
  have hij := P.ij
  have hjl := P.jl
  rcases P.lo t ht with h | ⟨h1, h2⟩
  · exact .inl h
  · refine .inr ⟨h1, ?_⟩
    by_cases c : i < j
    · rw [if_pos c]
      have hg := P.gap t i ht (by omega) ((cmpB_eq h1).trans (P.key i (Nat.le_refl _) c).symm)
      omega
    · rw [if_neg c]; exact h2

theorem Place.hi_ahead {l : List En} {e : En} {i j : Nat} (P : Place l e i j) (t : Nat) (ht : j ≤ t) (htl : t < l.length) : Ahead (mrg l e i j) (l.getD t d0) := by
  have hij := P.ij
  have hjl := P.jl
  have base : Ahead (mrg l e i j) (l.getD j d0) := by
    unfold Ahead
    rw [mrg_key, mrg_mx]
    have hx := P.hi j hij (by omega)
    have hs := P.stop (by omega)
    have hn := cmpB_neg e.key (l.getD j d0).key
    by_cases c : cmpB e.key (l.getD j d0).key = 0
    · refine .inr ⟨c, ?_⟩
      have hk : (l.getD j d0).key = e.key := (cmpB_eq c).symm
      have h1 : e.mx + 1 < (l.getD j d0).mn := by
        by_cases c1 : (l.getD j d0).mn ≤ e.mx
        · exact absurd ⟨hk, .inl c1⟩ hs
        · by_cases c2 : (l.getD j d0).mn - 1 = e.mx
          · exact absurd ⟨hk, .inr c2⟩ hs
          · omega
      by_cases c3 : i < j
      · rw [if_pos c3]
        have hg := P.gap (j - 1) j (by omega) (by omega) ((P.key (j - 1) (by omega) (by omega)).trans hk.symm)
        omega
      · rw [if_neg c3]; exact h1
    · left
      by_cases c2 : cmpB e.key (l.getD j d0).key < 0
      · exact c2
      · exact absurd (.inl (by omega)) hx
  by_cases c : t = j
  · subst c; exact base
  · exact base.trans (P.fit j (by omega)) (P.can j t (by omega) htl)

theorem Place.mrg_fit {l : List En} {e : En} {i j : Nat} (P : Place l e i j) : (mrg l e i j).mn ≤ (mrg l e i j).mx := by
  rw [mrg_mn, mrg_mx]
  have := P.efit
  by_cases c : i < j
  · rw [if_pos c, if_pos c]; omega
  · rw [if_neg c, if_neg c]; exact this

theorem Place.pw {l : List En} (h : PW l) {e : En} {i j : Nat} (P : Place l e i j) : PW (addOut l e i j) := by
  have hij := P.ij
  unfold addOut
  refine ⟨?_, ?_⟩
  · rw [List.pairwise_append, List.pairwise_append]
    refine ⟨⟨(h.take i).1, List.pairwise_singleton _ _, ?_⟩, (h.drop j).1, ?_⟩
    · intro a ha b hb
      rw [List.mem_singleton] at hb
      subst hb
      obtain ⟨t, ht, _, rfl⟩ := mem_take_gd ha
      exact P.lo_ahead t ht
    · intro a ha b hb
      obtain ⟨t, ht, htl, rfl⟩ := mem_drop_gd hb
      rw [List.mem_append, List.mem_singleton] at ha
      rcases ha with ha | rfl
      · obtain ⟨s, hs, _, rfl⟩ := mem_take_gd ha
        exact P.can s t (by omega) htl
      · exact P.hi_ahead t ht htl
  · intro x hx
    rw [List.mem_append, List.mem_append, List.mem_singleton] at hx
    rcases hx with (hx | rfl) | hx
    · exact h.2 x (List.mem_of_mem_take hx)
    · exact P.mrg_fit
    · exact h.2 x (List.mem_of_mem_drop hx)

/-- Behind Add the entries of key cover t where they did, or where e does. -/
theorem Place.union {l : List En} {e : En} {i j : Nat} (P : Place l e i j) (key : ByteArray) (t : Int) : Cov (addOut l e i j) key t ↔ Cov l key t ∨ (key = e.key ∧ e.mn ≤ t ∧ t ≤ e.mx) := by
  have hij := P.ij
  have hjl := P.jl
  have hef := P.efit
  unfold addOut Cov
  constructor
  · rintro ⟨x, hx, hk, hz⟩
    rw [List.mem_append, List.mem_append, List.mem_singleton] at hx
    rcases hx with (hx | rfl) | hx
    · exact .inl ⟨x, List.mem_of_mem_take hx, hk, hz⟩
    · rw [mrg_key] at hk
      rw [mrg_mn, mrg_mx] at hz
      by_cases c : i < j
      · rw [if_pos c, if_pos c] at hz
        by_cases c1 : t < e.mn
        · left
          refine ⟨l.getD i d0, by rw [gd (by omega)]; exact List.getElem_mem _, (P.key i (Nat.le_refl _) c).trans hk, by omega, ?_⟩
          have hx := P.hi i (Nat.le_refl _) (by omega)
          by_cases c2 : (l.getD i d0).mx + 1 < e.mn
          · exact absurd (.inr ⟨by rw [P.key i (Nat.le_refl _) c]; exact cmpB_self _, c2⟩) hx
          · omega
        · by_cases c2 : e.mx < t
          · left
            have ht := P.all (j - 1) (by omega) (by omega)
            refine ⟨l.getD (j - 1) d0, by rw [gd (by omega)]; exact List.getElem_mem _, ht.1.trans hk, ?_, by omega⟩
            rcases ht.2 with h | h <;> omega
          · exact .inr ⟨hk.symm, by omega, by omega⟩
      · rw [if_neg c, if_neg c] at hz
        exact .inr ⟨hk.symm, hz⟩
    · exact .inl ⟨x, List.mem_of_mem_drop hx, hk, hz⟩
  · rintro (⟨x, hx, hk, hz⟩ | ⟨hk, hz⟩)
    · obtain ⟨q, hq, rfl⟩ := List.getElem_of_mem hx
      by_cases c1 : q < i
      · refine ⟨l[q], ?_, hk, hz⟩
        rw [List.mem_append, List.mem_append]
        refine .inl (.inl ?_)
        have : (l.take i)[q]'(by simp; omega) = l[q] := List.getElem_take
        rw [← this]; exact List.getElem_mem _
      · by_cases c2 : q < j
        · refine ⟨mrg l e i j, by simp, ?_, ?_⟩
          · rw [mrg_key, ← P.key q (by omega) c2, gd hq]; exact hk
          · rw [mrg_mn, mrg_mx, if_pos (by omega), if_pos (by omega)]
            have kq := P.key q (by omega) c2
            rw [← gd hq] at hz
            have a1 : (l.getD i d0).mn ≤ (l.getD q d0).mn := by
              by_cases c3 : i = q
              · subst c3; exact Int.le_refl _
              · have hg := P.gap i q (by omega) hq ((P.key i (Nat.le_refl _) (by omega)).trans kq.symm)
                have := P.fit i (by omega)
                omega
            have a2 : (l.getD q d0).mx ≤ (l.getD (j - 1) d0).mx := by
              by_cases c3 : q = j - 1
              · rw [← c3]; exact Int.le_refl _
              · have hg := P.gap q (j - 1) (by omega) (by omega) (kq.trans (P.key (j - 1) (by omega) (by omega)).symm)
                have := P.fit (j - 1) (by omega)
                omega
            omega
        · refine ⟨l[q], ?_, hk, hz⟩
          rw [List.mem_append]
          right
          have : (l.drop j)[q - j]'(by simp; omega) = l[q] := by rw [List.getElem_drop]; congr 1; omega
          rw [← this]; exact List.getElem_mem _
    · refine ⟨mrg l e i j, by simp, by rw [mrg_key]; exact hk.symm, ?_⟩
      rw [mrg_mn, mrg_mx]
      by_cases c : i < j
      · rw [if_pos c, if_pos c]; omega
      · rw [if_neg c, if_neg c]; exact hz

end Go.Proofs.Qxb6604107a
