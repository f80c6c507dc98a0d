import Derived.Test.Qxb6604147aDigit
namespace Go.Proofs.Qxb6604147a
open Go.ChangeShapes Go.WideShapes Go.ChangeAt Go.RowKit
open Go.ChangeMaps (open_string shut_string)
set_option linter.unusedVariables false
namespace BackLaw

/-- The hex digit of v. -/
def hd (v : Int) (u : Bool) : Int := if v < 10 then 48 + v else if u then 55 + v else 87 + v

theorem hd_cases (v : Int) (u : Bool) : (v < 10 ∧ hd v u = 48 + v) ∨ (10 ≤ v ∧ u = true ∧ hd v u = 65 + (v - 10)) ∨ (10 ≤ v ∧ u = false ∧ hd v u = 97 + (v - 10)) := by
  unfold hd
  by_cases h : v < 10
  · rw [if_pos h]; exact .inl ⟨h, rfl⟩
  · rw [if_neg h]
    cases u
    · simp; omega
    · simp; omega

theorem dv_hd (v : Int) (u : Bool) (h0 : 0 ≤ v) (h1 : v ≤ 15) : dv (hd v u) = v ∧ 0 ≤ hd v u ∧ hd v u ≤ 255 := by
  have h := hd_cases v u
  have hd := dv_cases (hd v u)
  omega

theorem hexDigit (v : Int) (u : Bool) (h0 : 0 ≤ v) (h1 : v ≤ 15) (w : World) :
    Calls Try.prog 8 #[.int .u8 v, .bool u] w fun e w' => e = .returned (.int .u8 (hd v u)) ∧ w' = w := by
  have h := hd_cases v u
  generalize hd v u = x at h
  rcases h with ⟨a, hx⟩ | ⟨a, rfl, hx⟩ | ⟨a, rfl, hx⟩
  all_goals
    have HX := hide hx
    clear hx
    go_enter Try.func8, Try.ntmps8
    go_wp2
    go_ret
    exact ⟨ret_int (by rw [HX.out]), rfl⟩

theorem walk (a0 : Int) (a1 : Bool) (w0 : (Lit.int .u8 a0).wf = true) (w : World) :
    Calls Try.prog 4 #[.int .u8 a0, .bool a1] w fun e w' => e = .returned (.bool true) ∧ Grown w w' := by
  obtain ⟨b0, b1⟩ := bounds_u8 w0
  go_enter Try.func4, Try.ntmps4
  go_wp2_with fail
  have hv := dv_hd (a0 / 16) a1 (by omega) (by omega)
  have HC := hide (hexDigit (a0 / 16) a1 (by omega) (by omega) w)
  generalize hd (a0 / 16) a1 = x at hv HC
  obtain ⟨hx, hx0, hx1⟩ := hv
  have HX := hide hx
  clear hx
  refine HC.out.mono ?_
  rintro e w' ⟨rfl, hw⟩
  obtain rfl := hw.symm
  clear hw HC
  have hv2 := dv_hd (a0 % 16) a1 (by omega) (by omega)
  have HC2 := hide (hexDigit (a0 % 16) a1 (by omega) (by omega) w)
  generalize hd (a0 % 16) a1 = y at hv2 HC2
  obtain ⟨hy, hy0, hy1⟩ := hv2
  have h3 := zzDigitValue x hx0 hx1 w
  have h4 := zzDigitValue y hy0 hy1 w
  rw [HX.out] at h3
  rw [hy] at h4
  have HC3 := hide h3
  have HC4 := hide h4
  clear h3 h4 hy HX
  go_wp2_with fail
  refine HC2.out.mono ?_
  rintro e w' ⟨rfl, hw⟩
  obtain rfl := hw.symm
  clear hw HC2
  go_wp2_with fail
  refine HC3.out.mono ?_
  rintro e w' ⟨rfl, hw⟩
  obtain rfl := hw.symm
  clear hw HC3
  go_wp2_with fail
  refine HC4.out.mono ?_
  rintro e w' ⟨rfl, hw⟩
  obtain rfl := hw.symm
  clear hw HC4
  have q0 : 0 ≤ a0 / 16 := by omega
  have q1 : a0 / 16 ≤ 15 := by omega
  have q2 : 0 ≤ a0 % 16 := by omega
  have q3 : a0 % 16 ≤ 15 := by omega
  have hfin : a0 / 16 * 16 + a0 % 16 = a0 := by omega
  have HFIN := hide hfin
  clear hfin
  go_wp2
  go_ret
  refine ⟨ret_bool ?_, Grown.refl _⟩
  rw [HFIN.out]
  simp

set_option maxRecDepth 100000 in
theorem lifted (os : Os) (started : os.Started) (H : Type) (enc : TypeId × Value → H) :
    ReturnsInHanded {} Try.checked os 4 .any (Rows.fnDigitValueReadsBackHexByteSpec.pre6 enc Try.prog Try.f4 Rows.fnDigitValueReadsBackHexByteRow.domain false) (Rows.fnDigitValueReadsBackHexByteSpec.post enc Try.prog Try.f4 false true false false) := by
  refine returnsInHanded_of_change (C := Try.checked) own started (by kernel_rfl) Try.func4
    (ChangeSpec.witness6 (enc := enc) (C := Try.checked) false ⟨#[], #[.int .u8 0, .bool false], []⟩ 8 (by kernel_rfl) (by kernel_rfl) (by kernel_rfl) (by kernel_rfl)) ?_
  intro W base args ds gs before hval0 hW hcnd _
  have hval : ∀ (j : Nat) t v, Try.f4.params[j]? = some t → args[j]? = some v → Value.okWide Try.prog W .any base t v := hval0
  have hW' := hW
  obtain ⟨p, q, hA0, hV, rfl, hfz, hnd⟩ := hW
  have hA : DataW.TrodAll enc Try.prog W 0 (fun _ => true) true Try.f4.params.toList args.toList ds p := hA0
  rw [Try.params4] at hA hval
  obtain ⟨v0, vs0, d0, ds0, p0, q0, hargs, rfl, rfl, h0, r0⟩ := trodAll_cons hA
  obtain ⟨v1, vs1, d1, ds1, p1, q1, rfl, rfl, rfl, h1, r1⟩ := trodAll_cons r0
  obtain ⟨rfl, rfl, rfl⟩ := trodAll_nil r1
  obtain rfl : args = #[v0, v1] := by cases args; simp_all
  obtain ⟨rfl, rfl⟩ := trodVars_none hV
  obtain ⟨a0, rfl, rfl, rfl, w0⟩ := open_int Try.underlying5 (hval 0 5 v0 rfl rfl) h0
  obtain ⟨a1, rfl, rfl, rfl⟩ := open_bool Try.underlying4 (hval 1 4 v1 rfl rfl) h1
  clear hA0 hval0
  simp only [List.append_nil] at hW'
  refine (walk a0 a1 w0 W).mono fun e W' ⟨he, hg⟩ => ?_
  subst he
  exact ⟨_, rfl, post_of_same (pa := []) (pv := []) hW' (fun _ _ _ => (trodAll_cons_mk (shut_bool Try.underlying4 _) trodAll_mk0)) (fun sp _ => (trodAll_cons_mk (shut_int Try.underlying5 w0) (trodAll_cons_mk (shut_bool Try.underlying4 _) trodAll_mk0))) (fun _ _ => rfl) rfl
    (hg.frame _) hg.2.1 (ok_one (by kernel_rfl) rfl (okWide_bool_mk Try.underlying4 _))⟩

theorem over : Rows.fnDigitValueReadsBackHexByteRow.holds Try.pinned (OpenSpec.ofChange Rows.fnDigitValueReadsBackHexByteSpec) :=
  OpenClaim.holds_of_wide 4 Try.f4 rfl rfl rfl rfl rfl rfl rfl ⟨rfl, rfl, rfl, rfl, rfl⟩ rfl rfl rfl rfl rfl (by kernel_rfl) Try.func4 (by kernel_rfl)
    (of_decide_eq_true (by kernel_rfl)) (by unfold Func.isWrapper; first | (rw [if_pos (by decide +kernel)]; kernel_rfl) | (rw [if_neg (by decide +kernel)]; exact ⟨rfl, rfl⟩))
    (fun os started H enc _ => lifted os started H enc)

end BackLaw

/-- THE STATEMENT. -/
theorem digitValueReadsBackHexByte : Rows.FnDigitValueReadsBackHexByteSaid := BackLaw.over
end Go.Proofs.Qxb6604147a
