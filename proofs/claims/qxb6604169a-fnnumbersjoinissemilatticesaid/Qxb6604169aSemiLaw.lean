import Derived.Test.Qxb6604169aJoin
namespace Go.Proofs.Qxb6604169a.fnNumbersJoinIsSemilattice
open Go.ChangeShapes Go.WideShapes Go.ChangeAt Go.RowKit
open Go.ChangeMaps (open_string shut_string)
set_option linter.unusedVariables false      -- a walk need not use every 'w<i>' (that an integer argument fits its kind)

theorem own : ownKnob Try.prog.godebug = none := by kernel_rfl

/-! ### The walk -/
theorem comm (x y : Int × Bool) : numEq ((join x y).1, (join x y).2) ((join y x).1, (join y x).2) = true := by
  obtain ⟨a, s⟩ := x
  obtain ⟨b, t⟩ := y
  cases s <;> cases t
  · rfl
  · simp [join, numEq]
  · simp [join, numEq]
  · rcases Int.lt_trichotomy a b with h | h | h
    · simp [join, numEq, h, show ¬ b < a by omega]
    · simp [join, numEq, h]
    · simp [join, numEq, h, show ¬ a < b by omega]

theorem idem (x : Int × Bool) : numEq ((join x x).1, (join x x).2) x = true := by
  obtain ⟨a, s⟩ := x
  cases s <;> simp [join, numEq]

theorem join_some (a b : Int) : join (a, true) (b, true) = (max a b, true) := by
  by_cases h : a < b
  · simp [join, h]; omega
  · simp [join, h]; omega
theorem join_none (a : Int) (y : Int × Bool) : join (a, false) y = y := rfl
theorem join_some_none (a b : Int) : join (a, true) (b, false) = (a, true) := rfl

theorem assoc (x y z : Int × Bool) : numEq ((join (join x y) z).1, (join (join x y) z).2) ((join x (join y z)).1, (join x (join y z)).2) = true := by
  obtain ⟨a, s⟩ := x
  obtain ⟨b, t⟩ := y
  obtain ⟨c, u⟩ := z
  cases s <;> cases t <;> cases u <;> simp [join_some, join_none, join_some_none, numEq] <;> omega

theorem walk (a0 : Int) (a1 : Bool) (a2 : Int) (a3 : Bool) (a4 : Int) (a5 : Bool) (w0 : (Lit.int .u64 a0).wf = true) (w2 : (Lit.int .u64 a2).wf = true) (w4 : (Lit.int .u64 a4).wf = true) (w : World) :
    Calls Try.prog 9 #[.int .u64 a0, .bool a1, .int .u64 a2, .bool a3, .int .u64 a4, .bool a5] w fun e w' => e = .returned (.bool true) ∧ Below w.heap.size w w' := by
  clear w0 w2 w4
  have e1 := comm (a0, a1) (a2, a3)
  have e2 := assoc (a0, a1) (a2, a3) (a4, a5)
  have e3 := idem (a0, a1)
  have j1 := num a0 a1 a2 a3
  have j2 := num a2 a3 a0 a1
  have j5 := num a2 a3 a4 a5
  have j7 := num a0 a1 a0 a1
  generalize join (a0, a1) (a2, a3) = ab at *
  generalize join (a2, a3) (a0, a1) = ba at *
  generalize join (a2, a3) (a4, a5) = bc at *
  generalize join (a0, a1) (a0, a1) = aa at *
  obtain ⟨abn, abs⟩ := ab
  obtain ⟨ban, bas⟩ := ba
  obtain ⟨bcn, bcs⟩ := bc
  obtain ⟨aan, aas⟩ := aa
  have j4 := num abn abs a4 a5
  have j6 := num a0 a1 bcn bcs
  generalize join (abn, abs) (a4, a5) = l at *
  generalize join (a0, a1) (bcn, bcs) = r at *
  obtain ⟨ln, ls⟩ := l
  obtain ⟨rn, rs⟩ := r
  dsimp only at *
  have q1 := eq abn abs ban bas
  have q2 := eq ln ls rn rs
  have q3 := eq aan aas a0 a1
  rw [e1] at q1
  rw [e2] at q2
  rw [e3] at q3
  have J1 := hide j1
  have J2 := hide j2
  have J4 := hide j4
  have J5 := hide j5
  have J6 := hide j6
  have J7 := hide j7
  have Q1 := hide q1
  have Q2 := hide q2
  have Q3 := hide q3
  clear e1 e2 e3 j1 j2 j4 j5 j6 j7 q1 q2 q3
  go_enter Try.func9, Try.ntmps9
  go_wp2_with (fail)
  refine (J1.out _).mono ?_
  rintro e w1 ⟨rfl, b1⟩
  go_wp2_with (fail)
  refine (J2.out _).mono ?_
  rintro e w2 ⟨rfl, b2⟩
  replace b2 := b1.trans (b2.mono b1.size)
  clear b1
  go_wp2_with (fail)
  refine (Q1.out _).mono ?_
  rintro e w' ⟨rfl, hw⟩
  obtain rfl := hw.symm
  clear hw
  go_wp2_with (fail)
  refine (J4.out _).mono ?_
  rintro e w4 ⟨rfl, b4⟩
  replace b4 := b2.trans (b4.mono b2.size)
  clear b2
  go_wp2_with (fail)
  refine (J5.out _).mono ?_
  rintro e w5 ⟨rfl, b5⟩
  replace b5 := b4.trans (b5.mono b4.size)
  clear b4
  go_wp2_with (fail)
  refine (J6.out _).mono ?_
  rintro e w6 ⟨rfl, b6⟩
  replace b6 := b5.trans (b6.mono b5.size)
  clear b5
  go_wp2_with (fail)
  refine (Q2.out _).mono ?_
  rintro e w' ⟨rfl, hw⟩
  obtain rfl := hw.symm
  clear hw
  go_wp2_with (fail)
  refine (J7.out _).mono ?_
  rintro e w7 ⟨rfl, b7⟩
  replace b7 := b6.trans (b7.mono b6.size)
  clear b6
  go_wp2_with (fail)
  refine (Q3.out _).mono ?_
  rintro e w' ⟨rfl, hw⟩
  obtain rfl := hw.symm
  clear hw
  go_wp2
  go_ret
  exact ⟨rfl, b7⟩

/-! ### The row -/
set_option maxRecDepth 100000 in
theorem lifted (os : Os) (started : os.Started) (H : Type) (enc : TypeId × Value → H) :
    ReturnsInHanded {} Try.checked os 9 .any (Rows.fnNumbersJoinIsSemilatticeSpec.pre6 enc Try.prog Try.f9 Rows.fnNumbersJoinIsSemilatticeRow.domain false) (Rows.fnNumbersJoinIsSemilatticeSpec.post enc Try.prog Try.f9 false true false false) := by
  refine returnsInHanded_of_change (C := Try.checked) own started (by kernel_rfl) Try.func9
    (ChangeSpec.witness6 (enc := enc) (C := Try.checked) false ⟨#[], #[.int .u64 0, .bool false, .int .u64 0, .bool false, .int .u64 0, .bool false], []⟩ 8 (by kernel_rfl) (by kernel_rfl) (by kernel_rfl) (by kernel_rfl)) ?_
  intro W base args ds gs before hval0 hW hcnd _
  have hval : ∀ (j : Nat) t v, Try.f9.params[j]? = some t → args[j]? = some v → Value.okWide Try.prog W .any base t v := hval0
  have hW' := hW
  obtain ⟨p, q, hA0, hV, rfl, hfz, hnd⟩ := hW
  have hA : DataW.TrodAll enc Try.prog W 0 (fun _ => true) true Try.f9.params.toList args.toList ds p := hA0
  rw [Try.params9] at hA hval
  obtain ⟨v0, vs0, d0, ds0, p0, q0, hargs, rfl, rfl, h0, r0⟩ := trodAll_cons hA
  obtain ⟨v1, vs1, d1, ds1, p1, q1, rfl, rfl, rfl, h1, r1⟩ := trodAll_cons r0
  obtain ⟨v2, vs2, d2, ds2, p2, q2, rfl, rfl, rfl, h2, r2⟩ := trodAll_cons r1
  obtain ⟨v3, vs3, d3, ds3, p3, q3, rfl, rfl, rfl, h3, r3⟩ := trodAll_cons r2
  obtain ⟨v4, vs4, d4, ds4, p4, q4, rfl, rfl, rfl, h4, r4⟩ := trodAll_cons r3
  obtain ⟨v5, vs5, d5, ds5, p5, q5, rfl, rfl, rfl, h5, r5⟩ := trodAll_cons r4
  obtain ⟨rfl, rfl, rfl⟩ := trodAll_nil r5
  obtain rfl : args = #[v0, v1, v2, v3, v4, v5] := by cases args; simp_all
  obtain ⟨rfl, rfl⟩ := trodVars_none hV
  obtain ⟨a0, rfl, rfl, rfl, w0⟩ := open_int Try.underlying30 (hval 0 30 v0 rfl rfl) h0
  obtain ⟨a1, rfl, rfl, rfl⟩ := open_bool Try.underlying4 (hval 1 4 v1 rfl rfl) h1
  obtain ⟨a2, rfl, rfl, rfl, w2⟩ := open_int Try.underlying30 (hval 2 30 v2 rfl rfl) h2
  obtain ⟨a3, rfl, rfl, rfl⟩ := open_bool Try.underlying4 (hval 3 4 v3 rfl rfl) h3
  obtain ⟨a4, rfl, rfl, rfl, w4⟩ := open_int Try.underlying30 (hval 4 30 v4 rfl rfl) h4
  obtain ⟨a5, rfl, rfl, rfl⟩ := open_bool Try.underlying4 (hval 5 4 v5 rfl rfl) h5
  clear hA0 hval0
  refine (walk a0 a1 a2 a3 a4 a5 w0 w2 w4 W).mono fun e W' ⟨he, bel⟩ => ?_
  subst he
  exact ⟨_, rfl, _, _, _, [], _, [], hW', trodAll_mk1 (shut_bool Try.underlying4 _), (trodAll_cons_mk (shut_int Try.underlying30 w0) (trodAll_cons_mk (shut_bool Try.underlying4 _) (trodAll_cons_mk (shut_int Try.underlying30 w2) (trodAll_cons_mk (shut_bool Try.underlying4 _) (trodAll_cons_mk (shut_int Try.underlying30 w4) (trodAll_cons_mk (shut_bool Try.underlying4 _) trodAll_mk0)))))), rfl, bel.frame _, fun h => by cases h⟩

theorem over : Rows.fnNumbersJoinIsSemilatticeRow.holds Try.pinned (OpenSpec.ofChange Rows.fnNumbersJoinIsSemilatticeSpec) :=
  OpenClaim.holds_of_wide 9 Try.f9 rfl rfl rfl rfl rfl rfl rfl ⟨rfl, rfl, rfl, rfl, rfl⟩ rfl rfl rfl rfl rfl (by kernel_rfl) Try.func9 (by kernel_rfl)
    (of_decide_eq_true (by kernel_rfl)) (by unfold Func.isWrapper; first | (rw [if_pos (by decide +kernel)]; kernel_rfl) | (rw [if_neg (by decide +kernel)]; exact ⟨rfl, rfl⟩))
    (fun os started H enc _ => lifted os started H enc)

end Go.Proofs.Qxb6604169a.fnNumbersJoinIsSemilattice

namespace Go.Proofs.Qxb6604169a
/-- The statement. -/
theorem numbersJoinIsSemilattice : Rows.FnNumbersJoinIsSemilatticeSaid :=
  fnNumbersJoinIsSemilattice.over
end Go.Proofs.Qxb6604169a
