import Derived.Test.Qxb6604107aOpen
import Derived.Test.Qxb6604107aBytes
import Derived.Test.Qxb6604107aBig
import Derived.Test.Qxb6604107aDisj
import Derived.Test.Qxb6604107aBuild
import Derived.Test.Qxb6604107aCovers
import Derived.Test.Qxb6604107aScan
namespace Go.Proofs.Qxb6604107a
open Go.ChangeShapes Go.WideShapes Go.ChangeAt Go.RowKit
set_option linter.unusedVariables false
namespace CoversLaw

set_option maxHeartbeats 1000000 in
theorem walk (a0 : Option Addr) (len0 cap0 : Nat) (keys : List ByteArray) (a1 : Option Addr) (len1 cap1 : Nat) (mins : List Int) (a2 : Option Addr) (len2 cap2 : Nat) (maxs : List Int) (t : Int) (w : World) (w0 : Strs w a0 len0 keys) (w1 : Ints w a1 len1 mins) (w2 : Ints w a2 len2 maxs) (m0 : len0 ≤ maxLen) (m1 : len1 ≤ maxLen) (m2 : len2 ≤ maxLen) :
    Calls Try.prog 5 #[.slice a0 len0 cap0, .slice a1 len1 cap1, .slice a2 len2 cap2, .int .i64 t] w fun e w' => e = .returned (.bool true) ∧ Below w.heap.size w w' := by
  have W0 := hide w0
  have W1 := hide w1
  have W2 := hide w2
  clear w0 w1 w2
  go_enter Try.func5, Try.ntmps5
  go_wp2_with fail
  refine (bytes19 _ _ _ _ _ _ _ _ _ _ keys _ W0.out m0 m1 m2).mono ?_
  rintro e w' ⟨⟨r, rfl, hr⟩, hw⟩
  obtain rfl := hw.symm
  clear hw
  cases r with
  | false =>
    go_wp2
    go_ret
    exact ⟨rfl, Below.refl _ _⟩
  | true =>
  have HS := hide (hr rfl)
  clear hr
  go_wp2_with fail
  refine (tooBig _ _ _ _ _ _ _ _ _ _ _ keys _ W0.out HS.out m0 m1 m2 (by omega) (by unfold maxLen; omega) (by omega) (by unfold maxLen; omega)).mono ?_
  rintro e w' ⟨⟨r, rfl, hr⟩, hw⟩
  obtain rfl := hw.symm
  clear hw
  cases r with
  | true =>
    go_wp2
    go_ret
    exact ⟨rfl, Below.refl _ _⟩
  | false =>
  obtain ⟨b0, b1, b2, _⟩ := hr rfl
  clear hr m0 m1 m2
  go_wp2_with fail
  refine (sameLen _ _ _ _ _ _ _ _ _ _).mono ?_
  rintro e w' ⟨⟨r, rfl, hr⟩, hw⟩
  obtain rfl := hw.symm
  clear hw
  cases r with
  | false =>
    go_wp2
    go_ret
    exact ⟨rfl, Below.refl _ _⟩
  | true =>
  obtain ⟨rfl, rfl⟩ := hr rfl
  clear hr
  go_wp2_with fail
  refine (timesDisjoint _ _ _ _ _ mins maxs _ W1.out W2.out (by unfold maxLen; omega)).mono ?_
  rintro e w' ⟨⟨r, rfl, hr⟩, q, rfl⟩
  cases r with
  | false =>
    go_wp2
    go_ret
    exact ⟨rfl, below_drewN (Below.refl _ _) _⟩
  | true =>
  have HD := hide (hr rfl)
  clear hr
  have hdb : Below w.heap.size w (w.drewN q) := below_drewN (Below.refl _ _) _
  have hbuild := build a0 a1 a2 len0 cap0 cap1 cap2 keys mins maxs (w.drewN q) (W0.out.below hdb (Nat.le_refl _)) (W1.out.below hdb (Nat.le_refl _)) (W2.out.below hdb (Nat.le_refl _)) b0
  simp only [World.heap_drewN] at hbuild
  have HB := hide hbuild
  clear hbuild
  go_wp2_with fail
  refine HB.out.mono ?_
  rintro e w1 ⟨rfl, hE, hsz, hb1⟩
  have HE := hide hE
  have hb : Below w.heap.size w w1 := hdb.trans hb1
  have V1 := hide (W1.out.below hb (Nat.le_refl _))
  have V2 := hide (W2.out.below hb (Nat.le_refl _))
  clear hE hb1 hdb HB
  have hwn : ∃ wn : World, wn = w := ⟨_, rfl⟩
  have hlen : (ents keys mins maxs).length = len0 := ents_length W0.out.1 W1.out.1 W2.out.1
  have hcov := covers t w.heap.size 0 len0 (ents keys mins maxs) w1 HE.out hsz (by omega) (scan_mono W0.out.1 W1.out.1 W2.out.1 HD.out t)
  rw [hlen] at hcov
  have HC := hide hcov
  have HL := hide hlen
  clear hcov hlen hwn
  go_wp2
  go_loop [10, 11] (fun b i => ∃ (k : Nat) (r : Bool), k ≤ len0 ∧ i = .int .i64 k ∧ b = .bool r ∧ Hid (Seen mins maxs t k r)) (fun _ i => len0 - (intOf i).toNat)
  case atStart => exact ⟨0, false, Nat.zero_le _, rfl, rfl, Seen.zero _ _ _⟩
  case round =>
    obtain ⟨k, r, hk, rfl, rfl, HR⟩ := hrel
    by_cases hlt : k < len0
    · obtain ⟨hl1, _, hc1⟩ := V1.out
      obtain ⟨hl2, _, hc2⟩ := V2.out
      obtain ⟨c1, o1, rfl, _, hcell1⟩ := hc1 (by omega)
      obtain ⟨c2, o2, rfl, _, hcell2⟩ := hc2 (by omega)
      have k1 : k < mins.length := by omega
      have k2 : k < maxs.length := by omega
      have hg1 := hcell1 k k1
      have hg2 := hcell2 k k2
      generalize hs1 : mins[k] = x at hg1
      have HX : Hid (mins.getD k 0 = x) := by rw [← hs1]; exact getD_of k1
      generalize hs2 : maxs[k] = y at hg2
      have HY : Hid (maxs.getD k 0 = y) := by rw [← hs2]; exact getD_of k2
      clear hs1 hs2 hcell1 hcell2 hc1 hc2 hl1 hl2
      by_cases h1 : x ≤ t
      · by_cases h2 : t ≤ y
        · go_wp2
          go_round
          case rel => exact ⟨k + 1, true, by omega, by go_num, rfl, Seen.hit (by rw [HX.out]; exact h1) (by rw [HY.out]; exact h2)⟩
          case measure => simp [intOf]; omega
        · go_wp2
          go_round
          case rel => exact ⟨k + 1, r, by omega, by go_num, rfl, HR.out.miss (by rw [HX.out, HY.out]; omega)⟩
          case measure => simp [intOf]; omega
      · go_wp2
        go_round
        case rel => exact ⟨k + 1, r, by omega, by go_num, rfl, HR.out.miss (by rw [HX.out, HY.out]; omega)⟩
        case measure => simp [intOf]; omega
    · obtain rfl : k = len0 := by omega
      go_wp2_with (go_at_call 17; refine HC.out.mono ?_; rintro e w2 ⟨i, r2, rfl, hf, hb2⟩)
      go_ret
      refine ⟨ret_bool ?_, hb.trans (hb2.mono hb.size)⟩
      have h1 := scan_found W0.out.1 W1.out.1 W2.out.1 HD.out hf
      have h2 : r = true ↔ _ := HR.out
      have h3 : r2 = true ↔ r = true := h1.trans h2.symm
      cases r2 <;> cases r <;> simp at h3 ⊢

/-! ### THE ROW's STEP -/
set_option maxRecDepth 100000 in
theorem lifted (os : Os) (started : os.Started) (H : Type) (enc : TypeId × Value → H) :
    ReturnsInHanded {} Try.checked os 5 .any (Rows.fnCoversMatchesLinearScanSpec.pre6 enc Try.prog Try.f5 Rows.fnCoversMatchesLinearScanRow.domain false) (Rows.fnCoversMatchesLinearScanSpec.post enc Try.prog Try.f5 false true false false) := by
  refine returnsInHanded_of_change (C := Try.checked) own started (by kernel_rfl) Try.func5
    (ChangeSpec.witness6 (enc := enc) (C := Try.checked) false ⟨#[], #[.slice none 0 0, .slice none 0 0, .slice none 0 0, .int .i64 0], []⟩ 8 (by kernel_rfl) (by kernel_rfl) (by kernel_rfl) (by kernel_rfl)) ?_
  intro W base args ds gs before hval0 hW hcnd _
  have hval : ∀ (j : Nat) t v, Try.f5.params[j]? = some t → args[j]? = some v → Value.okWide Try.prog W .any base t v := hval0
  have hW' := hW
  obtain ⟨p, q, hA0, hV, rfl, hfz, hnd⟩ := hW
  have hA : DataW.TrodAll enc Try.prog W 0 (fun _ => true) true Try.f5.params.toList args.toList ds p := hA0
  rw [Try.params5] at hA hval
  obtain ⟨v0, vs0, d0, ds0, p0, q0, hargs, rfl, rfl, h0, r0⟩ := trodAll_cons hA
  obtain ⟨v1, vs1, d1, ds1, p1, q1, rfl, rfl, rfl, h1, r1⟩ := trodAll_cons r0
  obtain ⟨v2, vs2, d2, ds2, p2, q2, rfl, rfl, rfl, h2, r2⟩ := trodAll_cons r1
  obtain ⟨v3, vs3, d3, ds3, p3, q3, rfl, rfl, rfl, h3, r3⟩ := trodAll_cons r2
  obtain ⟨rfl, rfl, rfl⟩ := trodAll_nil r3
  obtain rfl : args = #[v0, v1, v2, v3] := by cases args; simp_all
  obtain ⟨rfl, rfl⟩ := trodVars_none hV
  obtain ⟨a0, len0, cap0, rfl⟩ := okWide_slice Try.underlying22 (hval 0 22 v0 rfl rfl)
  have k0 := h0
  have lt0 : ∀ x ∈ p0, x.block < W.heap.size := by obtain ⟨m, hm⟩ := k0; exact DataW.trod_lt m _ _ _ hm
  obtain ⟨z0, w0, m0⟩ := open_Strs h0
  obtain ⟨a1, len1, cap1, rfl⟩ := okWide_slice Try.underlying23 (hval 1 23 v1 rfl rfl)
  have k1 := h1
  have lt1 : ∀ x ∈ p1, x.block < W.heap.size := by obtain ⟨m, hm⟩ := k1; exact DataW.trod_lt m _ _ _ hm
  obtain ⟨z1, w1, m1⟩ := open_Ints h1
  obtain ⟨a2, len2, cap2, rfl⟩ := okWide_slice Try.underlying23 (hval 2 23 v2 rfl rfl)
  have k2 := h2
  have lt2 : ∀ x ∈ p2, x.block < W.heap.size := by obtain ⟨m, hm⟩ := k2; exact DataW.trod_lt m _ _ _ hm
  obtain ⟨z2, w2, m2⟩ := open_Ints h2
  obtain ⟨a3, rfl, rfl, rfl, w3⟩ := open_int Try.underlying2 (hval 3 2 v3 rfl rfl) h3
  clear hA0 hval0
  refine (walk a0 len0 cap0 z0 a1 len1 cap1 z1 a2 len2 cap2 z2 a3 W w0 w1 w2 m0 m1 m2).mono fun e W' ⟨he, bel⟩ => ?_
  subst he
  exact ⟨_, rfl, _, _, _, [], _, [], hW', trodAll_mk1 (shut_bool Try.underlying4 _), (trodAll_cons_mk (Below.trod laidOut (by kernel_rfl) (of_decide_eq_true (by kernel_rfl)) k0 bel lt0) (trodAll_cons_mk (Below.trod laidOut (by kernel_rfl) (of_decide_eq_true (by kernel_rfl)) k1 bel lt1) (trodAll_cons_mk (Below.trod laidOut (by kernel_rfl) (of_decide_eq_true (by kernel_rfl)) k2 bel lt2) (trodAll_cons_mk (shut_int Try.underlying2 w3) trodAll_mk0)))), rfl, bel.frame _, fun h => by cases h⟩

theorem over : Rows.fnCoversMatchesLinearScanRow.holds Try.pinned (OpenSpec.ofChange Rows.fnCoversMatchesLinearScanSpec) :=
  OpenClaim.holds_of_wide 5 Try.f5 rfl rfl rfl rfl rfl rfl rfl ⟨rfl, rfl, rfl, rfl, rfl⟩ rfl rfl rfl rfl rfl (by kernel_rfl) Try.func5 (by kernel_rfl)
    (of_decide_eq_true (by kernel_rfl)) (by unfold Func.isWrapper; first | (rw [if_pos (by decide +kernel)]; kernel_rfl) | (rw [if_neg (by decide +kernel)]; exact ⟨rfl, rfl⟩))
    (fun os started H enc _ => lifted os started H enc)


end CoversLaw

/-- THE STATEMENT. -/
theorem coversMatchesLinearScan : Rows.FnCoversMatchesLinearScanSaid := CoversLaw.over
end Go.Proofs.Qxb6604107a
