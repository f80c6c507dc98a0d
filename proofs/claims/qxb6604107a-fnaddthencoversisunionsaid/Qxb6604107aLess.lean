import Derived.Test.Qxb6604107aAddBase
namespace Go.Proofs.Qxb6604107a
open Go.ChangeShapes Go.WideShapes Go.ChangeAt Go.RowKit
set_option linter.unusedVariables false

/-- tbLess. -/
def lessE (a b : En) : Bool := if cmpB a.key b.key ≠ 0 then decide (cmpB a.key b.key < 0) else decide (a.mn < b.mn)

set_option maxHeartbeats 800000 in
theorem tbLess (ak : ByteArray) (amn amx : Int) (bk : ByteArray) (bmn bmx : Int) (w : World) (ha : ak.size ≤ maxLen) (hb : bk.size ≤ maxLen) :
    Calls Try.prog 24 #[.agg #[.string ak, .int .i64 amn, .int .i64 amx], .agg #[.string bk, .int .i64 bmn, .int .i64 bmx]] w fun e' w' => e' = .returned (.bool (lessE ⟨ak, amn, amx⟩ ⟨bk, bmn, bmx⟩)) ∧ Below w.heap.size w w' := by
  have hcmp := fun W => tbCmp ak bk W ha hb
  generalize hv : lessE ⟨ak, amn, amx⟩ ⟨bk, bmn, bmx⟩ = v
  have hv' : v = if cmpB ak bk ≠ 0 then decide (cmpB ak bk < 0) else decide (amn < bmn) := hv.symm
  generalize cmpB ak bk = c at hcmp hv'
  have HV := hide hv'
  have HC := hide hcmp
  clear hv hv' hcmp ha hb
  by_cases hc : c = 0
  · subst hc
    have HW : Hid (v = decide (amn < bmn)) := by have h := HV.out; simp at h; exact h
    go_enter Try.func24, Try.ntmps24
    go_wp2_with (go_at_call 23; refine (HC.out _).mono ?_; rintro e w' ⟨rfl, m, rfl⟩)
    go_ret
    exact ⟨ret_bool HW.out.symm, below_drewN (two_new _ _ _) _⟩
  · have HW : Hid (v = decide (c < 0)) := by have h := HV.out; rw [if_pos hc] at h; exact h
    have hc' : (c != 0) = true := by simpa using hc
    clear hc
    go_enter Try.func24, Try.ntmps24
    go_wp2_with (go_at_call 23; refine (HC.out _).mono ?_; rintro e w' ⟨rfl, m, rfl⟩)
    go_ret
    exact ⟨ret_bool HW.out.symm, below_drewN (two_new _ _ _) _⟩

/-! ### What tbInsertCoalesce computes -/
/-- The first walk, behind k rounds: what lies in out; whether e is placed. -/
def insTo (e : En) (l : List En) : Nat → List En × Bool
  | 0 => ([], false)
  | k + 1 => if (insTo e l k).2 = false ∧ lessE e (l.getD k d0) = true then ((insTo e l k).1 ++ [e] ++ [l.getD k d0], true) else ((insTo e l k).1 ++ [l.getD k d0], (insTo e l k).2)

theorem insTo_length (e : En) (l : List En) (k : Nat) : (insTo e l k).1.length = k + (insTo e l k).2.toNat := by
  induction k with
  | zero => rfl
  | succ k ih =>
    unfold insTo
    split
    · rename_i h; simp [ih, h.1]
    · simp [ih]; omega

/-- e in its place. -/
def insE (e : En) (l : List En) : List En := if (insTo e l l.length).2 then (insTo e l l.length).1 else (insTo e l l.length).1 ++ [e]

theorem insE_length (e : En) (l : List En) : (insE e l).length = l.length + 1 := by
  unfold insE
  have := insTo_length e l l.length
  split
  · rename_i h; rw [this, h]; rfl
  · rename_i h; simp at h; simp [this, h]

/-- x is joined to last. -/
def Joins (a x : En) : Prop := a.key = x.key ∧ (x.mn ≤ a.mx ∨ a.mx + 1 = x.mn)

/-- One round of the sweep. -/
def Sweep (r : List En) (x : En) (r' : List En) : Prop :=
  (∃ p a, r = p ++ [a] ∧ Joins a x ∧ r' = p ++ [⟨a.key, a.mn, max a.mx x.mx⟩]) ∨ ((∀ p a, r = p ++ [a] → ¬ Joins a x) ∧ r' = r ++ [x])

/-- The sweep behind k rounds. -/
def SweptTo (o : List En) : Nat → List En → Prop
  | 0, r => r = []
  | k + 1, r => ∃ r0, SweptTo o k r0 ∧ Sweep r0 (o.getD k d0) r

theorem SweptTo.le {o : List En} : ∀ {k : Nat} {r : List En}, SweptTo o k r → r.length ≤ k
  | 0, r, h => by have : r = [] := h; subst this; simp
  | k + 1, r, ⟨r0, h0, h1⟩ => by
    have := SweptTo.le h0
    rcases h1 with ⟨p, a, rfl, _, rfl⟩ | ⟨_, rfl⟩
    · simp at this ⊢; omega
    · simp; omega

end Go.Proofs.Qxb6604107a
