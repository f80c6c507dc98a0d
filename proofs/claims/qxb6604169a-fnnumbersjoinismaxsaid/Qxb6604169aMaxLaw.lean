import Derived.Test.Qxb6604169aJoin
namespace Go.Proofs.Qxb6604169a.fnNumbersJoinIsMax
open Go.ChangeShapes Go.WideShapes Go.ChangeAt Go.RowKit
open Go.ChangeMaps (open_string shut_string)
set_option linter.unusedVariables false      -- a walk need not use every 'w<i>' (that an integer argument fits its kind)

theorem own : ownKnob Try.prog.godebug = none := by kernel_rfl

/-! ### The walk -/
theorem leA (x y : Int × Bool) : numLE x ((join x y).1, (join x y).2) = true := by
  obtain ⟨a, s⟩ := x
  obtain ⟨b, t⟩ := y
  cases s
  · rfl
  · cases t
    · simp [join, numLE]
    · by_cases h : a < b
      · simp [join, numLE, h]; omega
      · simp [join, numLE, h]

theorem leB (x y : Int × Bool) : numLE y ((join x y).1, (join x y).2) = true := by
  obtain ⟨a, s⟩ := x
  obtain ⟨b, t⟩ := y
  cases t
  · rfl
  · cases s
    · simp [join, numLE]
    · by_cases h : a < b
      · simp [join, numLE, h]
      · simp [join, numLE, h]; omega

theorem walk (a0 : Int) (a1 : Bool) (a2 : Int) (a3 : Bool) (w0 : (Lit.int .u64 a0).wf = true) (w2 : (Lit.int .u64 a2).wf = true) (w : World) :
    Calls Try.prog 8 #[.int .u64 a0, .bool a1, .int .u64 a2, .bool a3] w fun e w' => e = .returned (.bool true) ∧ Below w.heap.size w w' := by
  clear w0 w2
  have hJ := num a0 a1 a2 a3
  have hA := le a0 a1 (join (a0, a1) (a2, a3)).1 (join (a0, a1) (a2, a3)).2
  have hB := le a2 a3 (join (a0, a1) (a2, a3)).1 (join (a0, a1) (a2, a3)).2
  have eA : numLE (a0, a1) ((join (a0, a1) (a2, a3)).1, (join (a0, a1) (a2, a3)).2) = true := leA _ _
  have eB : numLE (a2, a3) ((join (a0, a1) (a2, a3)).1, (join (a0, a1) (a2, a3)).2) = true := leB _ _
  rw [eA] at hA
  rw [eB] at hB
  clear eA eB
  cases a1
  · rw [show join (a0, false) (a2, a3) = (a2, a3) from rfl] at hJ
    have HJ := hide hJ
    clear hJ hA hB
    go_enter Try.func8, Try.ntmps8
    go_wp2_with (fail)
    refine (HJ.out _).mono ?_
    rintro e w1 ⟨rfl, b1⟩
    go_wp2
    go_ret
    exact ⟨ret_bool (by simp), b1⟩
  · have hr : (a0 < a2 ∧ a3 = true ∧ join (a0, true) (a2, a3) = (a2, a3)) ∨ join (a0, true) (a2, a3) = (a0, true) := by
      cases a3
      · exact .inr rfl
      · by_cases h : a0 < a2
        · exact .inl ⟨h, rfl, by simp [join, h]⟩
        · exact .inr (by simp [join, h])
    rcases hr with ⟨hlt, rfl, hr⟩ | hr
    · rw [hr] at hJ hA hB
      have HJ := hide hJ
      have HA := hide hA
      have HB := hide hB
      have hne : (a2 == a0) = false := by simp; omega
      clear hJ hA hB hr
      go_enter Try.func8, Try.ntmps8
      go_wp2_with (fail)
      refine (HJ.out _).mono ?_
      rintro e w1 ⟨rfl, b1⟩
      go_wp2_with (fail)
      refine (HA.out _).mono ?_
      rintro e w2 ⟨rfl, rfl⟩
      go_wp2_with (fail)
      refine (HB.out _).mono ?_
      rintro e w2 ⟨rfl, rfl⟩
      go_wp2
      go_ret
      exact ⟨rfl, b1⟩
    · rw [hr] at hJ hA hB
      have HJ := hide hJ
      have HA := hide hA
      have HB := hide hB
      clear hJ hA hB hr
      by_cases he : a0 = a2
      · subst he
        go_enter Try.func8, Try.ntmps8
        go_wp2_with (fail)
        refine (HJ.out _).mono ?_
        rintro e w1 ⟨rfl, b1⟩
        go_wp2_with (fail)
        refine (HA.out _).mono ?_
        rintro e w2 ⟨rfl, rfl⟩
        go_wp2_with (fail)
        refine (HB.out _).mono ?_
        rintro e w2 ⟨rfl, rfl⟩
        go_wp2
        go_ret
        exact ⟨rfl, b1⟩
      · have hne : (a0 == a2) = false := by simpa using he
        clear he
        go_enter Try.func8, Try.ntmps8
        go_wp2_with (fail)
        refine (HJ.out _).mono ?_
        rintro e w1 ⟨rfl, b1⟩
        go_wp2_with (fail)
        refine (HA.out _).mono ?_
        rintro e w2 ⟨rfl, rfl⟩
        go_wp2_with (fail)
        refine (HB.out _).mono ?_
        rintro e w2 ⟨rfl, rfl⟩
        go_wp2
        go_ret
        exact ⟨rfl, b1⟩

/-! ### The row -/
set_option maxRecDepth 100000 in
theorem lifted (os : Os) (started : os.Started) (H : Type) (enc : TypeId × Value → H) :
    ReturnsInHanded {} Try.checked os 8 .any (Rows.fnNumbersJoinIsMaxSpec.pre6 enc Try.prog Try.f8 Rows.fnNumbersJoinIsMaxRow.domain false) (Rows.fnNumbersJoinIsMaxSpec.post enc Try.prog Try.f8 false true false false) := by
  refine returnsInHanded_of_change (C := Try.checked) own started (by kernel_rfl) Try.func8
    (ChangeSpec.witness6 (enc := enc) (C := Try.checked) false ⟨#[], #[.int .u64 0, .bool false, .int .u64 0, .bool false], []⟩ 8 (by kernel_rfl) (by kernel_rfl) (by kernel_rfl) (by kernel_rfl)) ?_
  intro W base args ds gs before hval0 hW hcnd _
  have hval : ∀ (j : Nat) t v, Try.f8.params[j]? = some t → args[j]? = some v → Value.okWide Try.prog W .any base t v := hval0
  have hW' := hW
  obtain ⟨p, q, hA0, hV, rfl, hfz, hnd⟩ := hW
  have hA : DataW.TrodAll enc Try.prog W 0 (fun _ => true) true Try.f8.params.toList args.toList ds p := hA0
  rw [Try.params8] at hA hval
  obtain ⟨v0, vs0, d0, ds0, p0, q0, hargs, rfl, rfl, h0, r0⟩ := trodAll_cons hA
  obtain ⟨v1, vs1, d1, ds1, p1, q1, rfl, rfl, rfl, h1, r1⟩ := trodAll_cons r0
  obtain ⟨v2, vs2, d2, ds2, p2, q2, rfl, rfl, rfl, h2, r2⟩ := trodAll_cons r1
  obtain ⟨v3, vs3, d3, ds3, p3, q3, rfl, rfl, rfl, h3, r3⟩ := trodAll_cons r2
  obtain ⟨rfl, rfl, rfl⟩ := trodAll_nil r3
  obtain rfl : args = #[v0, v1, v2, v3] := by cases args; simp_all
  obtain ⟨rfl, rfl⟩ := trodVars_none hV
  obtain ⟨a0, rfl, rfl, rfl, w0⟩ := open_int Try.underlying30 (hval 0 30 v0 rfl rfl) h0
  obtain ⟨a1, rfl, rfl, rfl⟩ := open_bool Try.underlying4 (hval 1 4 v1 rfl rfl) h1
  obtain ⟨a2, rfl, rfl, rfl, w2⟩ := open_int Try.underlying30 (hval 2 30 v2 rfl rfl) h2
  obtain ⟨a3, rfl, rfl, rfl⟩ := open_bool Try.underlying4 (hval 3 4 v3 rfl rfl) h3
  clear hA0 hval0
  refine (walk a0 a1 a2 a3 w0 w2 W).mono fun e W' ⟨he, bel⟩ => ?_
  subst he
  exact ⟨_, rfl, _, _, _, [], _, [], hW', trodAll_mk1 (shut_bool Try.underlying4 _), (trodAll_cons_mk (shut_int Try.underlying30 w0) (trodAll_cons_mk (shut_bool Try.underlying4 _) (trodAll_cons_mk (shut_int Try.underlying30 w2) (trodAll_cons_mk (shut_bool Try.underlying4 _) trodAll_mk0)))), rfl, bel.frame _, fun h => by cases h⟩

theorem over : Rows.fnNumbersJoinIsMaxRow.holds Try.pinned (OpenSpec.ofChange Rows.fnNumbersJoinIsMaxSpec) :=
  OpenClaim.holds_of_wide 8 Try.f8 rfl rfl rfl rfl rfl rfl rfl ⟨rfl, rfl, rfl, rfl, rfl⟩ rfl rfl rfl rfl rfl (by kernel_rfl) Try.func8 (by kernel_rfl)
    (of_decide_eq_true (by kernel_rfl)) (by unfold Func.isWrapper; first | (rw [if_pos (by decide +kernel)]; kernel_rfl) | (rw [if_neg (by decide +kernel)]; exact ⟨rfl, rfl⟩))
    (fun os started H enc _ => lifted os started H enc)

end Go.Proofs.Qxb6604169a.fnNumbersJoinIsMax

namespace Go.Proofs.Qxb6604169a
/-- The statement. -/
theorem numbersJoinIsMax : Rows.FnNumbersJoinIsMaxSaid :=
  fnNumbersJoinIsMax.over
end Go.Proofs.Qxb6604169a
