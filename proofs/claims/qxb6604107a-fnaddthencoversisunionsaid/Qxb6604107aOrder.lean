import Derived.Test.Qxb6604107aCanon
import Derived.Test.Qxb6604107aCovers
namespace Go.Proofs.Qxb6604107a
open Go.RowKit

/-! ### compareBytes is a total order -/
theorem cb_self : ∀ a : List UInt8, Lib.compareBytes a a = 0
  | [] => rfl
  | x :: a => by
    rw [Lib.compareBytes, if_neg (UInt8.lt_irrefl x), if_neg (UInt8.lt_irrefl x)]
    exact cb_self a

theorem cb_zero : ∀ a b : List UInt8, Lib.compareBytes a b = 0 → a = b
  | [], [], _ => rfl
  | [], _ :: _, h => by simp [Lib.compareBytes] at h
  | _ :: _, [], h => by simp [Lib.compareBytes] at h
  | x :: a, y :: b, h => by
    rw [Lib.compareBytes] at h
    by_cases h1 : x < y
    · rw [if_pos h1] at h; omega
    · rw [if_neg h1] at h
      by_cases h2 : y < x
      · rw [if_pos h2] at h; omega
      · rw [if_neg h2] at h
        have : x = y := UInt8.le_antisymm (UInt8.not_lt.1 h2) (UInt8.not_lt.1 h1)
        rw [this, cb_zero a b h]

theorem cb_neg : ∀ a b : List UInt8, Lib.compareBytes b a = - Lib.compareBytes a b
  | [], [] => rfl
  | [], _ :: _ => rfl
  | _ :: _, [] => rfl
  | x :: a, y :: b => by
    rw [Lib.compareBytes, Lib.compareBytes]
    by_cases h1 : x < y
    · have h2 : ¬ y < x := fun h => UInt8.lt_irrefl x (UInt8.lt_trans h1 h)
      rw [if_pos h1, if_neg h2, if_pos h1]; rfl
    · by_cases h2 : y < x
      · simp only [if_neg h1, if_pos h2]
      · simp only [if_neg h1, if_neg h2]
        exact cb_neg a b

theorem cb_le_trans : ∀ a b c : List UInt8, Lib.compareBytes a b ≤ 0 → Lib.compareBytes b c ≤ 0 → Lib.compareBytes a c ≤ 0
  | [], _, [], _, _ => by simp [Lib.compareBytes]
  | [], _, _ :: _, _, _ => by simp [Lib.compareBytes]
  | _ :: _, [], _, h, _ => by simp [Lib.compareBytes] at h
  | _ :: _, _ :: _, [], _, h => by simp [Lib.compareBytes] at h
  | x :: a, y :: b, z :: c, h, k => by
    rw [Lib.compareBytes] at h k ⊢
    by_cases xz : x < z
    · rw [if_pos xz]; omega
    · rw [if_neg xz]
      by_cases xy : x < y
      · have : ¬ y < z := fun h' => xz (UInt8.lt_trans xy h')
        rw [if_neg this] at k
        by_cases zy : z < y
        · rw [if_pos zy] at k; omega
        · have e : y = z := UInt8.le_antisymm (UInt8.not_lt.1 zy) (UInt8.not_lt.1 this)
          exact absurd (e ▸ xy) xz
      · rw [if_neg xy] at h
        by_cases yx : y < x
        · rw [if_pos yx] at h; omega
        · rw [if_neg yx] at h
          have e : x = y := UInt8.le_antisymm (UInt8.not_lt.1 yx) (UInt8.not_lt.1 xy)
          subst e
          rw [if_neg xz] at k
          by_cases zx : z < x
          · rw [if_pos zx] at k; omega
          · rw [if_neg zx] at k ⊢
            exact cb_le_trans a b c h k

theorem cmpB_self (a : ByteArray) : cmpB a a = 0 := cb_self _
theorem cmpB_eq {a b : ByteArray} (h : cmpB a b = 0) : a = b := by
  have := cb_zero _ _ h
  obtain ⟨⟨la⟩⟩ := a
  obtain ⟨⟨lb⟩⟩ := b
  simp at this
  rw [this]
theorem cmpB_neg (a b : ByteArray) : cmpB b a = - cmpB a b := cb_neg _ _
theorem cmpB_le {a b c : ByteArray} (h : cmpB a b ≤ 0) (k : cmpB b c ≤ 0) : cmpB a c ≤ 0 := cb_le_trans _ _ _ h k
theorem cmpB_lt_le {a b c : ByteArray} (h : cmpB a b < 0) (k : cmpB b c ≤ 0) : cmpB a c < 0 := by
  have h1 : cmpB a c ≤ 0 := cmpB_le (a := a) (b := b) (by omega) k
  by_cases e : cmpB a c = 0
  · have := cmpB_eq e
    subst this
    have h2 := cmpB_neg a b
    omega
  · omega
theorem cmpB_le_lt {a b c : ByteArray} (h : cmpB a b ≤ 0) (k : cmpB b c < 0) : cmpB a c < 0 := by
  have h1 : cmpB a c ≤ 0 := cmpB_le (b := b) (c := c) h (by omega)
  by_cases e : cmpB a c = 0
  · have := cmpB_eq e
    subst this
    have h2 := cmpB_neg a b
    omega
  · omega

/-- Go's '==' on strings. -/
theorem eqB (a b : ByteArray) : (a.toList == b.toList) = decide (a = b) := by
  rw [ByteArray.toList_eq, ByteArray.toList_eq]
  by_cases h : a = b
  · subst h; simp
  · rw [decide_eq_false h]
    have : a.data.toList ≠ b.data.toList := fun e => h (by
      obtain ⟨⟨la⟩⟩ := a
      obtain ⟨⟨lb⟩⟩ := b
      simp at e
      rw [e])
    simpa using this

/-! ### A list in file order -/
def Canon (l : List En) : Prop := CanonTo l l.length

theorem Canon.fit {l : List En} (h : Canon l) (i : Nat) (hi : i < l.length) : l[i].mn ≤ l[i].mx := h.1 i hi hi
theorem Ahead.le {a b : En} (h : Ahead a b) : cmpB a.key b.key ≤ 0 := by rcases h with h | h <;> omega

theorem Ahead.trans {a b c : En} (h : Ahead a b) (hb : b.mn ≤ b.mx) (k : Ahead b c) : Ahead a c := by
  rcases h with h | ⟨h1, h2⟩
  · exact .inl (cmpB_lt_le h k.le)
  · have e := cmpB_eq h1
    unfold Ahead
    rw [e]
    rcases k with k | ⟨k1, k2⟩
    · exact .inl k
    · exact .inr ⟨k1, by omega⟩

/-- Any two entries of a list in file order. -/
theorem Canon.ahead {l : List En} (h : Canon l) (i j : Nat) (hij : i < j) (hj : j < l.length) : Ahead (l[i]'(by omega)) l[j] := by
  induction j with
  | zero => omega
  | succ q ih =>
    have hs := h.2 q hj hj
    by_cases e : i = q
    · subst e; exact hs
    · exact (ih (by omega) (by omega)).trans (h.fit q (by omega)) hs

theorem Canon.key_le {l : List En} (h : Canon l) (i j : Nat) (hij : i ≤ j) (hj : j < l.length) : cmpB (l[i]'(by omega)).key l[j].key ≤ 0 := by
  by_cases e : i = j
  · subst e; rw [cmpB_self]; omega
  · exact (h.ahead i j (by omega) hj).le

end Go.Proofs.Qxb6604107a
