import Derived.Test.Qxb6604147aCamel
namespace Go.Proofs.Qxb6604147a
open Go.ChangeShapes Go.WideShapes Go.ChangeAt Go.RowKit
open Go.ChangeMaps (open_string shut_string)
set_option linter.unusedVariables false
namespace CamelLaw

theorem bytes9 (s : ByteArray) (hs : s.size ≤ 1048576) (w : World) :
    Calls Try.prog 9 #[.string s] w fun e w' => e = .returned (.bool true) ∧ w' = w := by
  go_enter Try.func9, Try.ntmps9
  go_wp2
  go_ret
  exact ⟨rfl, rfl⟩

set_option maxHeartbeats 1000000 in
theorem walk (s : ByteArray) (w0 : s.size ≤ maxLen) (w : World) :
    Calls Try.prog 5 #[.string s] w fun e w' => e = .returned (.bool true) ∧ Below w.heap.size w w' := by
  unfold maxLen at w0
  by_cases hs : s.size ≤ 1048576
  · clear w0
    have H9 := hide (bytes9 s hs w)
    by_cases hp : 0 < s.size
    · have hp' : (0 : Int) < (s.size : Int) := by omega
      by_cases h95 : s[0].toNat = 95
      · have e95 : ((s[0].toNat : Int) == 95) = true := by rw [h95]; rfl
        go_enter Try.func5, Try.ntmps5
        go_wp2_with (go_at_call 9; refine H9.out.mono ?_; rintro e w' ⟨rfl, hw⟩; obtain rfl := hw.symm; clear hw)
        go_ret
        exact ⟨rfl, Below.refl _ _⟩
      · have H0 : Hid (∀ h : 0 < s.size, s[0].toNat ≠ 95) := fun _ => h95
        have e95 : ((s[0].toNat : Int) == 95) = false := by simp; omega
        clear h95
        go_enter Try.func5, Try.ntmps5
        go_wp2_with (go_at_call 9; refine H9.out.mono ?_; rintro e w' ⟨rfl, hw⟩; obtain rfl := hw.symm; clear hw)
        go_loop [3] (fun i => ∃ k : Nat, k ≤ s.size ∧ i = .int .i64 k ∧ Hid (∀ j (h : j < s.size), j < k → s[j].toNat < 97 ∨ 122 < s[j].toNat)) (fun i => s.size - (intOf i).toNat)
        case atStart => exact ⟨0, Nat.zero_le _, rfl, fun j h hj => by omega⟩
        case round =>
          obtain ⟨k, hk, rfl, HJ⟩ := hrel
          by_cases hlt : k < s.size
          · have hb : s[k].toNat < 256 := s[k].toNat_lt
            generalize hck : s[k].toNat = c at hb
            have HCK := hide hck
            have HZ := hide (zzIsLower c hb w)
            go_wp2_with fail
            refine HZ.out.mono ?_
            rintro e w' ⟨⟨r, rfl, hr⟩, hw⟩
            obtain rfl := hw.symm
            clear hw
            cases r with
            | true =>
              go_wp2
              go_ret
              exact ⟨rfl, Below.refl _ _⟩
            | false =>
              have HR := hide (hr rfl)
              clear hr
              go_wp2
              go_round
              case rel =>
                refine ⟨k + 1, by omega, by go_num, fun j h hj => ?_⟩
                by_cases hjk : j < k
                · exact HJ.out j h hjk
                · obtain rfl : j = k := by omega
                  rw [HCK.out]; exact HR.out
              case measure => simp [intOf]; omega
          · have HC := hide (zzCamelCase s w hs (fun k' h => HJ.out k' h (by omega)) H0.out)
            go_wp2_with fail
            refine HC.out.mono ?_
            rintro e w1 ⟨rfl, hb1⟩
            go_wp2
            go_ret
            exact ⟨ret_bool (by simp), hb1⟩
    · have H0 : Hid (∀ h : 0 < s.size, s[0].toNat ≠ 95) := fun h => absurd h hp
      have hd : decide ((0 : Int) < (s.size : Int)) = false := decide_eq_false (by omega)
      go_enter Try.func5, Try.ntmps5
      go_wp2_with (go_at_call 9; refine H9.out.mono ?_; rintro e w' ⟨rfl, hw⟩; obtain rfl := hw.symm; clear hw)
      go_loop [3] (fun i => ∃ k : Nat, k ≤ s.size ∧ i = .int .i64 k ∧ Hid (∀ j (h : j < s.size), j < k → s[j].toNat < 97 ∨ 122 < s[j].toNat)) (fun i => s.size - (intOf i).toNat)
      case atStart => exact ⟨0, Nat.zero_le _, rfl, fun j h hj => by omega⟩
      case round =>
        obtain ⟨k, hk, rfl, HJ⟩ := hrel
        by_cases hlt : k < s.size
        · have hb : s[k].toNat < 256 := s[k].toNat_lt
          generalize hck : s[k].toNat = c at hb
          have HCK := hide hck
          have HZ := hide (zzIsLower c hb w)
          go_wp2_with fail
          refine HZ.out.mono ?_
          rintro e w' ⟨⟨r, rfl, hr⟩, hw⟩
          obtain rfl := hw.symm
          clear hw
          cases r with
          | true =>
            go_wp2
            go_ret
            exact ⟨rfl, Below.refl _ _⟩
          | false =>
            have HR := hide (hr rfl)
            clear hr
            go_wp2
            go_round
            case rel =>
              refine ⟨k + 1, by omega, by go_num, fun j h hj => ?_⟩
              by_cases hjk : j < k
              · exact HJ.out j h hjk
              · obtain rfl : j = k := by omega
                rw [HCK.out]; exact HR.out
            case measure => simp [intOf]; omega
        · have HC := hide (zzCamelCase s w hs (fun k' h => HJ.out k' h (by omega)) H0.out)
          go_wp2_with fail
          refine HC.out.mono ?_
          rintro e w1 ⟨rfl, hb1⟩
          go_wp2
          go_ret
          exact ⟨ret_bool (by simp), hb1⟩
  · go_enter Try.func5, Try.ntmps5
    go_wp2
    go_ret
    exact ⟨rfl, Below.refl _ _⟩

set_option maxRecDepth 100000 in
theorem lifted (os : Os) (started : os.Started) (H : Type) (enc : TypeId × Value → H) :
    ReturnsInHanded {} Try.checked os 5 .any (Rows.fnCamelCaseKeepsNamesWithoutLowerCaseSpec.pre6 enc Try.prog Try.f5 Rows.fnCamelCaseKeepsNamesWithoutLowerCaseRow.domain false) (Rows.fnCamelCaseKeepsNamesWithoutLowerCaseSpec.post enc Try.prog Try.f5 false true false false) := by
  refine returnsInHanded_of_change (C := Try.checked) own started (by kernel_rfl) Try.func5
    (ChangeSpec.witness6 (enc := enc) (C := Try.checked) false ⟨#[], #[.string ByteArray.empty], []⟩ 8 (by kernel_rfl) (by kernel_rfl) (by kernel_rfl) (by kernel_rfl)) ?_
  intro W base args ds gs before hval0 hW hcnd _
  have hval : ∀ (j : Nat) t v, Try.f5.params[j]? = some t → args[j]? = some v → Value.okWide Try.prog W .any base t v := hval0
  have hW' := hW
  obtain ⟨p, q, hA0, hV, rfl, hfz, hnd⟩ := hW
  have hA : DataW.TrodAll enc Try.prog W 0 (fun _ => true) true Try.f5.params.toList args.toList ds p := hA0
  rw [Try.params5] at hA hval
  obtain ⟨v0, vs0, d0, ds0, p0, q0, hargs, rfl, rfl, h0, r0⟩ := trodAll_cons hA
  obtain ⟨rfl, rfl, rfl⟩ := trodAll_nil r0
  obtain rfl : args = #[v0] := by cases args; simp_all
  obtain ⟨rfl, rfl⟩ := trodVars_none hV
  obtain ⟨a0, rfl, rfl, rfl, w0⟩ := open_string Try.underlying9 (hval 0 9 v0 rfl rfl) h0
  clear hA0 hval0
  refine (walk a0 w0 W).mono fun e W' ⟨he, bel⟩ => ?_
  subst he
  exact ⟨_, rfl, _, _, _, [], _, [], hW', trodAll_mk1 (shut_bool Try.underlying4 _), (trodAll_cons_mk (shut_string Try.underlying9 w0) trodAll_mk0), rfl, bel.frame _, fun h => by cases h⟩

theorem over : Rows.fnCamelCaseKeepsNamesWithoutLowerCaseRow.holds Try.pinned (OpenSpec.ofChange Rows.fnCamelCaseKeepsNamesWithoutLowerCaseSpec) :=
  OpenClaim.holds_of_wide 5 Try.f5 rfl rfl rfl rfl rfl rfl rfl ⟨rfl, rfl, rfl, rfl, rfl⟩ rfl rfl rfl rfl rfl (by kernel_rfl) Try.func5 (by kernel_rfl)
    (of_decide_eq_true (by kernel_rfl)) (by unfold Func.isWrapper; first | (rw [if_pos (by decide +kernel)]; kernel_rfl) | (rw [if_neg (by decide +kernel)]; exact ⟨rfl, rfl⟩))
    (fun os started H enc _ => lifted os started H enc)

end CamelLaw

/-- THE STATEMENT. -/
theorem camelCaseKeepsNamesWithoutLowerCase : Rows.FnCamelCaseKeepsNamesWithoutLowerCaseSaid := CamelLaw.over
end Go.Proofs.Qxb6604147a
