import Derived.Test.Qxb6604107aOpen
import Derived.Test.Qxb6604107aBytes
import Derived.Test.Qxb6604107aBig
import Derived.Test.Qxb6604107aBuild
import Derived.Test.Qxb6604107aAdd
import Derived.Test.Qxb6604107aSweep
import Derived.Test.Qxb6604107aUnion
namespace Go.Proofs.Qxb6604107a
open Go.ChangeShapes Go.WideShapes Go.ChangeAt Go.RowKit
open Go.ChangeMaps (open_string shut_string)
set_option linter.unusedVariables false
namespace UnionLaw

theorem ents_fit {w : World} {a1 a2 : Option Addr} {n : Nat} {keys : List ByteArray} {mins maxs : List Int} (h1 : Ints w a1 n mins) (h2 : Ints w a2 n maxs) : Fit (ents keys mins maxs) := by
  intro e he
  unfold ents at he
  obtain ⟨x, hx, rfl⟩ := List.mem_map.1 he
  have hx2 := (List.of_mem_zip hx).2
  have hx3 := List.of_mem_zip hx2
  exact ⟨bounds_i64 (h1.2.1 _ hx3.1), bounds_i64 (h2.2.1 _ hx3.2)⟩

theorem ents_short {w : World} {a0 : Option Addr} {n : Nat} {keys : List ByteArray} {mins maxs : List Int} (h0 : Strs w a0 n keys) : ∀ e ∈ ents keys mins maxs, e.key.size ≤ maxLen := by
  intro e he
  unfold ents at he
  obtain ⟨x, hx, rfl⟩ := List.mem_map.1 he
  exact h0.2.1 _ (List.of_mem_zip hx).1

/-- OfKey, then Covers: whether the entries of key cover t. -/
theorem two (key : ByteArray) (t : Int) (b cap : Nat) (l : List En) (w : World) (h : PW l) (hn : l.length ≤ 65537) (hb : b < w.heap.size) (i j : Nat) (r1 r2 : Bool) (o c : Nat) (h1 : Found (cmpK key) l i r1) (h2 : Found (cmpK (key0 key)) (l.drop i) j r2) (hE : Ents w b o ((l.drop i).take j)) :
    Calls Try.prog 17 #[.slice (some ⟨b, o, none⟩) j c, .int .i64 t] w fun e w' => ∃ r : Bool, e = .returned (.bool r) ∧ (r = true ↔ Cov l key t) ∧ Below w.heap.size w w' := by
  have hj := h2.le
  have hlen : ((l.drop i).take j).length = j := by simp at hj ⊢; omega
  have hc := covers t b o c ((l.drop i).take j) w hE hb (by rw [hlen]; simp at hj; omega) ((cov_of (t := t) (k := 0) (r := false) h h1 h2).1.mono t)
  rw [hlen] at hc
  refine hc.mono ?_
  rintro e w' ⟨k, r, rfl, hf, hb'⟩
  exact ⟨r, rfl, (cov_of h h1 h2).2 hf, hb'⟩

set_option maxHeartbeats 4000000 in
set_option maxRecDepth 100000 in
theorem walk (a0 : Option Addr) (len0 cap0 : Nat) (keys : List ByteArray) (a1 : Option Addr) (len1 cap1 : Nat) (mins : List Int) (a2 : Option Addr) (len2 cap2 : Nat) (maxs : List Int) (ek : ByteArray) (emn emx : Int) (key : ByteArray) (t : Int) (w : World)
    (w0 : Strs w a0 len0 keys) (w1 : Ints w a1 len1 mins) (w2 : Ints w a2 len2 maxs) (m0 : len0 ≤ maxLen) (m1 : len1 ≤ maxLen) (m2 : len2 ≤ maxLen) (w3 : ek.size ≤ maxLen) (w4 : (Lit.int .i64 emn).wf = true) (w5 : (Lit.int .i64 emx).wf = true) (w6 : key.size ≤ maxLen) :
    Calls Try.prog 4 #[.slice a0 len0 cap0, .slice a1 len1 cap1, .slice a2 len2 cap2, .string ek, .int .i64 emn, .int .i64 emx, .string key, .int .i64 t] w fun e w' => e = .returned (.bool true) ∧ Below w.heap.size w w' := by
  have W0 := hide w0
  have W1 := hide w1
  have W2 := hide w2
  have W3 := hide w3
  have W6 := hide w6
  have be := bounds_i64 w4
  have bx := bounds_i64 w5
  clear w0 w1 w2 w4 w5
  unfold maxLen at w3 w6
  go_enter Try.func4, Try.ntmps4
  go_wp2_with fail
  refine (bytes16 _ _ _ _ _ _ _ _ _ _ _ _ _ _ keys _ W0.out m0 m1 m2 W3.out W6.out).mono ?_
  rintro e w' ⟨⟨r, rfl, hr⟩, hw⟩
  obtain rfl := hw.symm
  clear hw
  cases r with
  | false =>
    go_wp2
    go_ret
    exact ⟨rfl, Below.refl _ _⟩
  | true =>
  have HS := hide (hr rfl)
  clear hr
  go_wp2_with fail
  refine (tooBig _ _ _ _ _ _ _ _ _ _ _ keys _ W0.out HS.out m0 m1 m2 (by omega) (by unfold maxLen; omega) (by omega) (by unfold maxLen; omega)).mono ?_
  rintro e w' ⟨⟨r, rfl, hr⟩, hw⟩
  obtain rfl := hw.symm
  clear hw
  cases r with
  | true =>
    go_wp2
    go_ret
    exact ⟨rfl, Below.refl _ _⟩
  | false =>
  obtain ⟨b0, b1, b2, b3, b4⟩ := hr rfl
  clear hr m0 m1 m2
  go_wp2_with fail
  refine (sameLen _ _ _ _ _ _ _ _ _ _).mono ?_
  rintro e w' ⟨⟨r, rfl, hr⟩, hw⟩
  obtain rfl := hw.symm
  clear hw
  cases r with
  | false =>
    go_wp2
    go_ret
    exact ⟨rfl, Below.refl _ _⟩
  | true =>
  obtain ⟨rfl, rfl⟩ := hr rfl
  clear hr
  go_wp2_with fail
  refine (canonical _ _ _ _ _ _ _ keys mins maxs _ W0.out W1.out W2.out b0).mono ?_
  rintro e w' ⟨⟨r, rfl, hr⟩, q, rfl⟩
  cases r with
  | false =>
    go_wp2
    go_ret
    exact ⟨rfl, below_drewN (Below.refl _ _) _⟩
  | true =>
  have HLEN := hide (ents_length W0.out.1 W1.out.1 W2.out.1 : (ents keys mins maxs).length = len0)
  have HD : Hid (Canon (ents keys mins maxs)) := by show CanonTo _ _; rw [HLEN.out]; exact hr rfl
  clear hr
  by_cases hee : emx < emn
  · go_wp2
    go_ret
    exact ⟨rfl, below_drewN (Below.refl _ _) _⟩
  have hdb : Below w.heap.size w (w.drewN q) := below_drewN (Below.refl _ _) _
  have hbuild := build a0 a1 a2 len0 cap0 cap1 cap2 keys mins maxs (w.drewN q) (W0.out.below hdb (Nat.le_refl _)) (W1.out.below hdb (Nat.le_refl _)) (W2.out.below hdb (Nat.le_refl _)) b0
  simp only [World.heap_drewN] at hbuild
  have HB := hide hbuild
  clear hbuild
  go_wp2_with fail
  refine HB.out.mono ?_
  rintro e w1 ⟨rfl, hE, hsz, hb1⟩
  have HFIT := hide (ents_fit (keys := keys) W1.out W2.out)
  generalize hl : ents keys mins maxs = l at *
  clear hl
  have HE := hide hE
  have hb : Below w.heap.size w w1 := hdb.trans hb1
  have HBB := hide hb
  clear hE hb1 hdb HB hb
  have HBA : Hid (Below w.heap.size w (w1.alloc (.cells #[.string ek, .int .i64 emn, .int .i64 emx] 30))) := HBB.out.alloc HBB.out.size _
  have HEA : Hid (Ents (w1.alloc (.cells #[.string ek, .int .i64 emn, .int .i64 emx] 30)) w.heap.size 0 l) := HE.out.below ((Below.refl _ _).alloc (Nat.le_refl _) _) hsz
  have HBX := hide (box_cells w1 (.string ek) (.int .i64 emn) (.int .i64 emx))
  have hswa : w.heap.size < (w1.alloc (.cells #[.string ek, .int .i64 emn, .int .i64 emx] 30)).heap.size := by simp; omega
  have hee' : emn ≤ emx := by omega
  clear hee HE HBB
  have HPW := hide HD.out.pw
  have hok := ofKey key w.heap.size len0 l (w1.alloc (.cells #[.string ek, .int .i64 emn, .int .i64 emx] 30)) HEA.out hswa (by rw [HLEN.out]; omega) (by rw [HLEN.out]; exact Nat.le_refl _) (by omega) (HPW.out.monoK _) (HPW.out.monoK _)
  rw [HLEN.out] at hok
  have HOK := hide hok
  clear hok
  go_wp2_with fail
  refine HOK.out.mono ?_
  rintro e w2 ⟨i1, j1, r1, r2, o1, c1, h1, h2, rfl, hE1, hb2⟩
  have HB2 := hide hb2
  have htw := two key t w.heap.size 0 l w2 HPW.out (by rw [HLEN.out]; omega) (by have := hb2.size; omega) i1 j1 r1 r2 o1 c1 h1 h2 hE1
  have HTW := hide htw
  clear hb2 h1 h2 hE1 htw HOK
  go_wp2_with fail
  refine HTW.out.mono ?_
  rintro e w3 ⟨rb, rfl, hrb, hb3⟩
  have HRB := hide hrb
  have HB3 : Hid (Below (w1.alloc (.cells #[.string ek, .int .i64 emn, .int .i64 emx] 30)).heap.size (w1.alloc (.cells #[.string ek, .int .i64 emn, .int .i64 emx] 30)) w3) := HB2.out.trans (hb3.mono HB2.out.size)
  obtain ⟨y0, y1, y2⟩ := three_below HB3.out HBX.out.1 HBX.out.2.1 HBX.out.2.2
  clear hrb hb3 HB2 HTW HBX
  have hsw3 : w.heap.size < w3.heap.size := by have := HB3.out.size; omega
  have HE3 := hide (HEA.out.below HB3.out hswa)
  have HBW3 : Hid (Below w.heap.size w w3) := HBA.out.trans (HB3.out.mono (by omega))
  have hadd := add ek emn emx w.heap.size l w3 HE3.out hsw3 (by rw [HLEN.out]; exact b0) HFIT.out be bx (canon_mono HD.out _)
  rw [HLEN.out] at hadd
  have HADD := hide hadd
  clear hadd HB3 HBA HEA hswa
  go_wp2_with fail
  refine HADD.out.mono ?_
  rintro e w4 ⟨hbA, i, j, rr, hF, hR, hcase⟩
  have HPL := hide (place HD.out (e := ⟨ek, emn, emx⟩) hee' hF hR)
  have HOL : Hid ((addOut l ⟨ek, emn, emx⟩ i j).length ≤ 65537) := by
    have h1 := HPL.out.jl
    have h2 := HPL.out.ij
    have h3 := HLEN.out
    show List.length _ ≤ _
    simp [addOut]
    omega
  have HPW2 := hide (HPL.out.pw HPW.out)
  have HUN := hide (HPL.out.union key t)
  have HB4 : Hid (Below w.heap.size w w4) := HBW3.out.trans (hbA.mono (by omega))
  obtain ⟨g, c, ch, he4, hE4, hg4, hc4⟩ : ∃ g c ch, e = .returned (.tuple #[.slice (some ⟨g, 0, none⟩) (addOut l ⟨ek, emn, emx⟩ i j).length c, .bool ch]) ∧ Ents w4 g 0 (addOut l ⟨ek, emn, emx⟩ i j) ∧ g < w4.heap.size ∧ (addOut l ⟨ek, emn, emx⟩ i j).length ≤ c := by
    rcases hcase with ⟨hH, rfl⟩ | ⟨hH, g2, c2, rfl, hE2, hg2w, hg2l, hc2⟩
    · rw [held_out HPL.out hH]
      exact ⟨w.heap.size, l.length, false, rfl, HE3.out.below hbA hsw3, by have := hbA.size; omega, Nat.le_refl _⟩
    · exact ⟨g2, c2, true, rfl, hE2, hg2l, hc2⟩
  clear hcase hF hR hbA HADD
  subst he4
  have HOK := hide (ofKey key g c (addOut l ⟨ek, emn, emx⟩ i j) w4 hE4 hg4 HOL.out hc4 (by omega) (HPW2.out.monoK _) (HPW2.out.monoK _))
  clear hE4 hc4
  generalize hL2 : addOut l ⟨ek, emn, emx⟩ i j = l2 at *
  clear hL2
  go_wp2_with fail
  refine HOK.out.mono ?_
  rintro e w5 ⟨i1, j1, r1, r2, o1, c1, h1, h2, rfl, hE1, hb5⟩
  have HB5 := hide hb5
  have HTW := hide (two key t g 0 l2 w5 HPW2.out HOL.out (by have := hb5.size; omega) i1 j1 r1 r2 o1 c1 h1 h2 hE1)
  clear hb5 h1 h2 hE1 HOK
  go_wp2_with fail
  refine HTW.out.mono ?_
  rintro e w6 ⟨ra, rfl, hra, hb6⟩
  have HBW6 : Hid (Below w.heap.size w w6) := HB4.out.trans ((HB5.out.trans (hb6.mono HB5.out.size)).mono (by have := HB4.out.size; omega))
  have HAB : Hid (ra = true ↔ rb = true ∨ (key = ek ∧ emn ≤ t ∧ t ≤ emx)) := by
    refine hra.trans (HUN.out.trans ?_)
    rw [← HRB.out]
  clear hra hb6 HTW HRB
  have fin : ∀ inb : Bool, (inb = true ↔ (key = ek ∧ emn ≤ t ∧ t ≤ emx)) → ra = (rb || inb) := by
    intro inb hin
    have h := HAB.out
    rw [← hin] at h
    cases ra <;> cases rb <;> cases inb <;> simp at h ⊢
  have FIN := hide fin
  clear fin
  by_cases hk : key = ek
  · have hq : (key.toList == ek.toList) = true := by rw [hk]; simp
    by_cases ht1 : emn ≤ t
    · by_cases ht2 : t ≤ emx
      · have hra : ra = true := by rw [FIN.out true ⟨fun _ => ⟨hk, ht1, ht2⟩, fun _ => rfl⟩]; simp
        subst hra
        clear hk
        cases rb <;> (go_wp2; go_ret; exact ⟨rfl, HBW6.out⟩)
      · have hra : ra = rb := by rw [FIN.out false ⟨fun h => (by cases h), fun h => absurd h.2.2 ht2⟩]; simp
        have hd2 : decide (t ≤ emx) = false := by simpa using ht2
        subst hra
        clear hk
        cases ra <;> (go_wp2; go_ret; exact ⟨rfl, HBW6.out⟩)
    · have hra : ra = rb := by rw [FIN.out false ⟨fun h => (by cases h), fun h => absurd h.2.1 ht1⟩]; simp
      subst hra
      clear hk
      cases ra <;> (go_wp2; go_ret; exact ⟨rfl, HBW6.out⟩)
  · have hq : (key.toList == ek.toList) = false := by rw [eqB]; simpa using hk
    have hra : ra = rb := by rw [FIN.out false ⟨fun h => (by cases h), fun h => absurd h.1 hk⟩]; simp
    subst hra
    clear hk
    cases ra <;> (go_wp2; go_ret; exact ⟨rfl, HBW6.out⟩)

/-! ### THE ROW's STEP -/
set_option maxRecDepth 100000 in
theorem lifted (os : Os) (started : os.Started) (H : Type) (enc : TypeId × Value → H) :
    ReturnsInHanded {} Try.checked os 4 .any (Rows.fnAddThenCoversIsUnionSpec.pre6 enc Try.prog Try.f4 Rows.fnAddThenCoversIsUnionRow.domain false) (Rows.fnAddThenCoversIsUnionSpec.post enc Try.prog Try.f4 false true false false) := by
  refine returnsInHanded_of_change (C := Try.checked) own started (by kernel_rfl) Try.func4
    (ChangeSpec.witness6 (enc := enc) (C := Try.checked) false ⟨#[], #[.slice none 0 0, .slice none 0 0, .slice none 0 0, .string ByteArray.empty, .int .i64 0, .int .i64 0, .string ByteArray.empty, .int .i64 0], []⟩ 8 (by kernel_rfl) (by kernel_rfl) (by kernel_rfl) (by kernel_rfl)) ?_
  intro W base args ds gs before hval0 hW hcnd _
  have hval : ∀ (j : Nat) t v, Try.f4.params[j]? = some t → args[j]? = some v → Value.okWide Try.prog W .any base t v := hval0
  have hW' := hW
  obtain ⟨p, q, hA0, hV, rfl, hfz, hnd⟩ := hW
  have hA : DataW.TrodAll enc Try.prog W 0 (fun _ => true) true Try.f4.params.toList args.toList ds p := hA0
  rw [Try.params4] at hA hval
  obtain ⟨v0, vs0, d0, ds0, p0, q0, hargs, rfl, rfl, h0, r0⟩ := trodAll_cons hA
  obtain ⟨v1, vs1, d1, ds1, p1, q1, rfl, rfl, rfl, h1, r1⟩ := trodAll_cons r0
  obtain ⟨v2, vs2, d2, ds2, p2, q2, rfl, rfl, rfl, h2, r2⟩ := trodAll_cons r1
  obtain ⟨v3, vs3, d3, ds3, p3, q3, rfl, rfl, rfl, h3, r3⟩ := trodAll_cons r2
  obtain ⟨v4, vs4, d4, ds4, p4, q4, rfl, rfl, rfl, h4, r4⟩ := trodAll_cons r3
  obtain ⟨v5, vs5, d5, ds5, p5, q5, rfl, rfl, rfl, h5, r5⟩ := trodAll_cons r4
  obtain ⟨v6, vs6, d6, ds6, p6, q6, rfl, rfl, rfl, h6, r6⟩ := trodAll_cons r5
  obtain ⟨v7, vs7, d7, ds7, p7, q7, rfl, rfl, rfl, h7, r7⟩ := trodAll_cons r6
  obtain ⟨rfl, rfl, rfl⟩ := trodAll_nil r7
  obtain rfl : args = #[v0, v1, v2, v3, v4, v5, v6, v7] := by cases args; simp_all
  obtain ⟨rfl, rfl⟩ := trodVars_none hV
  obtain ⟨a0, len0, cap0, rfl⟩ := okWide_slice Try.underlying22 (hval 0 22 v0 rfl rfl)
  have k0 := h0
  have lt0 : ∀ x ∈ p0, x.block < W.heap.size := by obtain ⟨m, hm⟩ := k0; exact DataW.trod_lt m _ _ _ hm
  obtain ⟨z0, w0, m0⟩ := open_Strs h0
  obtain ⟨a1, len1, cap1, rfl⟩ := okWide_slice Try.underlying23 (hval 1 23 v1 rfl rfl)
  have k1 := h1
  have lt1 : ∀ x ∈ p1, x.block < W.heap.size := by obtain ⟨m, hm⟩ := k1; exact DataW.trod_lt m _ _ _ hm
  obtain ⟨z1, w1, m1⟩ := open_Ints h1
  obtain ⟨a2, len2, cap2, rfl⟩ := okWide_slice Try.underlying23 (hval 2 23 v2 rfl rfl)
  have k2 := h2
  have lt2 : ∀ x ∈ p2, x.block < W.heap.size := by obtain ⟨m, hm⟩ := k2; exact DataW.trod_lt m _ _ _ hm
  obtain ⟨z2, w2, m2⟩ := open_Ints h2
  obtain ⟨a3, rfl, rfl, rfl, w3⟩ := open_string Try.underlying9 (hval 3 9 v3 rfl rfl) h3
  obtain ⟨a4, rfl, rfl, rfl, w4⟩ := open_int Try.underlying2 (hval 4 2 v4 rfl rfl) h4
  obtain ⟨a5, rfl, rfl, rfl, w5⟩ := open_int Try.underlying2 (hval 5 2 v5 rfl rfl) h5
  obtain ⟨a6, rfl, rfl, rfl, w6⟩ := open_string Try.underlying9 (hval 6 9 v6 rfl rfl) h6
  obtain ⟨a7, rfl, rfl, rfl, w7⟩ := open_int Try.underlying2 (hval 7 2 v7 rfl rfl) h7
  clear hA0 hval0
  refine (walk a0 len0 cap0 z0 a1 len1 cap1 z1 a2 len2 cap2 z2 a3 a4 a5 a6 a7 W w0 w1 w2 m0 m1 m2 w3 w4 w5 w6).mono fun e W' ⟨he, bel⟩ => ?_
  subst he
  exact ⟨_, rfl, _, _, _, [], _, [], hW', trodAll_mk1 (shut_bool Try.underlying4 _), (trodAll_cons_mk (Below.trod laidOut (by kernel_rfl) (of_decide_eq_true (by kernel_rfl)) k0 bel lt0) (trodAll_cons_mk (Below.trod laidOut (by kernel_rfl) (of_decide_eq_true (by kernel_rfl)) k1 bel lt1) (trodAll_cons_mk (Below.trod laidOut (by kernel_rfl) (of_decide_eq_true (by kernel_rfl)) k2 bel lt2) (trodAll_cons_mk (shut_string Try.underlying9 w3) (trodAll_cons_mk (shut_int Try.underlying2 w4) (trodAll_cons_mk (shut_int Try.underlying2 w5) (trodAll_cons_mk (shut_string Try.underlying9 w6) (trodAll_cons_mk (shut_int Try.underlying2 w7) trodAll_mk0)))))))), rfl, bel.frame _, fun h => by cases h⟩

theorem over : Rows.fnAddThenCoversIsUnionRow.holds Try.pinned (OpenSpec.ofChange Rows.fnAddThenCoversIsUnionSpec) :=
  OpenClaim.holds_of_wide 4 Try.f4 rfl rfl rfl rfl rfl rfl rfl ⟨rfl, rfl, rfl, rfl, rfl⟩ rfl rfl rfl rfl rfl (by kernel_rfl) Try.func4 (by kernel_rfl)
    (of_decide_eq_true (by kernel_rfl)) (by unfold Func.isWrapper; first | (rw [if_pos (by decide +kernel)]; kernel_rfl) | (rw [if_neg (by decide +kernel)]; exact ⟨rfl, rfl⟩))
    (fun os started H enc _ => lifted os started H enc)

end UnionLaw

/-- THE STATEMENT. -/
theorem addThenCoversIsUnion : Rows.FnAddThenCoversIsUnionSaid := UnionLaw.over
end Go.Proofs.Qxb6604107a
