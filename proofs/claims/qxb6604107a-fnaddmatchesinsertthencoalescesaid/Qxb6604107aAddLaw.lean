import Derived.Test.Qxb6604107aOpen
import Derived.Test.Qxb6604107aBytes
import Derived.Test.Qxb6604107aBig
import Derived.Test.Qxb6604107aBuild
import Derived.Test.Qxb6604107aAdd
import Derived.Test.Qxb6604107aInsert
import Derived.Test.Qxb6604107aSame
import Derived.Test.Qxb6604107aSweep
namespace Go.Proofs.Qxb6604107a
open Go.ChangeShapes Go.WideShapes Go.ChangeAt Go.RowKit
open Go.ChangeMaps (open_string shut_string)
set_option linter.unusedVariables false

theorem ents_fit {w : World} {a1 a2 : Option Addr} {n : Nat} {keys : List ByteArray} {mins maxs : List Int} (h1 : Ints w a1 n mins) (h2 : Ints w a2 n maxs) : Fit (ents keys mins maxs) := by
  intro e he
  unfold ents at he
  obtain ⟨x, hx, rfl⟩ := List.mem_map.1 he
  have hx2 := (List.of_mem_zip hx).2
  have hx3 := List.of_mem_zip hx2
  exact ⟨bounds_i64 (h1.2.1 _ hx3.1), bounds_i64 (h2.2.1 _ hx3.2)⟩

theorem ents_short {w : World} {a0 : Option Addr} {n : Nat} {keys : List ByteArray} {mins maxs : List Int} (h0 : Strs w a0 n keys) : ∀ e ∈ ents keys mins maxs, e.key.size ≤ maxLen := by
  intro e he
  unfold ents at he
  obtain ⟨x, hx, rfl⟩ := List.mem_map.1 he
  exact h0.2.1 _ (List.of_mem_zip hx).1

/-- What the loop over the lists has seen behind k rounds. -/
def Cont (l : List En) (e : En) (k : Nat) (b : Bool) : Prop := b = true ↔ ∃ t, t < k ∧ (l.getD t d0).key = e.key ∧ (l.getD t d0).mn ≤ e.mn ∧ e.mx ≤ (l.getD t d0).mx

theorem Cont.zero (l : List En) (e : En) : Cont l e 0 false := ⟨fun h => (by cases h), fun ⟨t, h, _⟩ => (by omega)⟩
theorem Cont.hit {l : List En} {e : En} {k : Nat} (h : (l.getD k d0).key = e.key ∧ (l.getD k d0).mn ≤ e.mn ∧ e.mx ≤ (l.getD k d0).mx) : Cont l e (k + 1) true := ⟨fun _ => ⟨k, (by omega), h⟩, fun _ => rfl⟩
theorem Cont.miss {l : List En} {e : En} {k : Nat} {b : Bool} (h : Cont l e k b) (hn : ¬ ((l.getD k d0).key = e.key ∧ (l.getD k d0).mn ≤ e.mn ∧ e.mx ≤ (l.getD k d0).mx)) : Cont l e (k + 1) b := by
  refine h.trans ⟨fun ⟨t, ht, h'⟩ => ⟨t, by omega, h'⟩, fun ⟨t, ht, h'⟩ => ⟨t, ?_, h'⟩⟩
  have : t ≠ k := fun e => hn (e ▸ h')
  omega

namespace AddLaw

set_option maxHeartbeats 4000000 in
set_option maxRecDepth 100000 in
theorem walk (a0 : Option Addr) (len0 cap0 : Nat) (keys : List ByteArray) (a1 : Option Addr) (len1 cap1 : Nat) (mins : List Int) (a2 : Option Addr) (len2 cap2 : Nat) (maxs : List Int) (ek : ByteArray) (emn emx : Int) (w : World)
    (w0 : Strs w a0 len0 keys) (w1 : Ints w a1 len1 mins) (w2 : Ints w a2 len2 maxs) (m0 : len0 ≤ maxLen) (m1 : len1 ≤ maxLen) (m2 : len2 ≤ maxLen) (w3 : ek.size ≤ maxLen) (w4 : (Lit.int .i64 emn).wf = true) (w5 : (Lit.int .i64 emx).wf = true) :
    Calls Try.prog 3 #[.slice a0 len0 cap0, .slice a1 len1 cap1, .slice a2 len2 cap2, .string ek, .int .i64 emn, .int .i64 emx] w fun e w' => e = .returned (.bool true) ∧ Below w.heap.size w w' := by
  have W0 := hide w0
  have W1 := hide w1
  have W2 := hide w2
  have W3 := hide w3
  have be := bounds_i64 w4
  have bx := bounds_i64 w5
  clear w0 w1 w2 w4 w5
  unfold maxLen at w3
  go_enter Try.func3, Try.ntmps3
  go_wp2_with fail
  refine (bytes7 _ _ _ _ _ _ _ _ _ _ _ _ keys _ W0.out m0 m1 m2 W3.out).mono ?_
  rintro e w' ⟨⟨r, rfl, hr⟩, hw⟩
  obtain rfl := hw.symm
  clear hw
  cases r with
  | false =>
    go_wp2
    go_ret
    exact ⟨rfl, Below.refl _ _⟩
  | true =>
  have HS := hide (hr rfl)
  clear hr
  go_wp2_with fail
  refine (tooBig _ _ _ _ _ _ _ _ _ _ _ keys _ W0.out HS.out m0 m1 m2 (by omega) (by unfold maxLen; omega) (by omega) (by unfold maxLen; omega)).mono ?_
  rintro e w' ⟨⟨r, rfl, hr⟩, hw⟩
  obtain rfl := hw.symm
  clear hw
  cases r with
  | true =>
    go_wp2
    go_ret
    exact ⟨rfl, Below.refl _ _⟩
  | false =>
  obtain ⟨b0, b1, b2, _⟩ := hr rfl
  clear hr m0 m1 m2
  go_wp2_with fail
  refine (sameLen _ _ _ _ _ _ _ _ _ _).mono ?_
  rintro e w' ⟨⟨r, rfl, hr⟩, hw⟩
  obtain rfl := hw.symm
  clear hw
  cases r with
  | false =>
    go_wp2
    go_ret
    exact ⟨rfl, Below.refl _ _⟩
  | true =>
  obtain ⟨rfl, rfl⟩ := hr rfl
  clear hr
  go_wp2_with fail
  refine (canonical _ _ _ _ _ _ _ keys mins maxs _ W0.out W1.out W2.out b0).mono ?_
  rintro e w' ⟨⟨r, rfl, hr⟩, q, rfl⟩
  cases r with
  | false =>
    go_wp2
    go_ret
    exact ⟨rfl, below_drewN (Below.refl _ _) _⟩
  | true =>
  have HLEN := hide (ents_length W0.out.1 W1.out.1 W2.out.1 : (ents keys mins maxs).length = len0)
  have HD : Hid (Canon (ents keys mins maxs)) := by show CanonTo _ _; rw [HLEN.out]; exact hr rfl
  clear hr
  by_cases hee : emx < emn
  · go_wp2
    go_ret
    exact ⟨rfl, below_drewN (Below.refl _ _) _⟩
  have hdb : Below w.heap.size w (w.drewN q) := below_drewN (Below.refl _ _) _
  have hbuild := build a0 a1 a2 len0 cap0 cap1 cap2 keys mins maxs (w.drewN q) (W0.out.below hdb (Nat.le_refl _)) (W1.out.below hdb (Nat.le_refl _)) (W2.out.below hdb (Nat.le_refl _)) b0
  simp only [World.heap_drewN] at hbuild
  have HB := hide hbuild
  clear hbuild
  go_wp2_with fail
  refine HB.out.mono ?_
  rintro e w1 ⟨rfl, hE, hsz, hb1⟩
  have HFIT := hide (ents_fit (keys := keys) W1.out W2.out)
  have HSHORT := hide (ents_short (mins := mins) (maxs := maxs) W0.out)
  generalize hl : ents keys mins maxs = l at *
  have HL := hide hl
  clear hl
  have HE := hide hE
  have hb : Below w.heap.size w w1 := hdb.trans hb1
  have HBB := hide hb
  clear hE hb1 hdb HB hb
  go_upto_block 0 with fail
  have HBA : Hid (Below w.heap.size w (w1.alloc (.cells #[.string ek, .int .i64 emn, .int .i64 emx] 30))) := HBB.out.alloc HBB.out.size _
  have HEA : Hid (Ents (w1.alloc (.cells #[.string ek, .int .i64 emn, .int .i64 emx] 30)) w.heap.size 0 l) := HE.out.below ((Below.refl _ _).alloc (Nat.le_refl _) _) hsz
  obtain ⟨x0, x1, x2⟩ := box_cells w1 (.string ek) (.int .i64 emn) (.int .i64 emx)
  have hsa : w1.heap.size < (w1.alloc (.cells #[.string ek, .int .i64 emn, .int .i64 emx] 30)).heap.size := by simp
  generalize w1.alloc (.cells #[.string ek, .int .i64 emn, .int .i64 emx] 30) = wa at HBA HEA x0 x1 x2 hsa ⊢
  have V0 := hide (W0.out.below HBA.out (Nat.le_refl _))
  have V1 := hide (W1.out.below HBA.out (Nat.le_refl _))
  have V2 := hide (W2.out.below HBA.out (Nat.le_refl _))
  clear HE HBB
  have hee' : emn ≤ emx := by omega
  clear hee
  go_cut [15, 16] (fun bv _ wc => ∃ bb : Bool, bv = .bool bb ∧ wc = wa ∧ Hid (Cont l ⟨ek, emn, emx⟩ len0 bb))
  case first =>
    go_wp2
    go_loop [15, 16] (fun bv kv => ∃ (k : Nat) (bb : Bool), k ≤ len0 ∧ kv = .int .i64 k ∧ bv = .bool bb ∧ Hid (Cont l ⟨ek, emn, emx⟩ k bb)) (fun _ kv => len0 - (intOf kv).toNat)
    case atStart => exact ⟨0, false, Nat.zero_le _, rfl, rfl, Cont.zero _ _⟩
    case round =>
      obtain ⟨k, bb, hk, rfl, rfl, HC⟩ := hrel
      by_cases hlt : k < len0
      · obtain ⟨hl0, _, hc0⟩ := V0.out
        obtain ⟨hl1, _, hc1⟩ := V1.out
        obtain ⟨hl2, _, hc2⟩ := V2.out
        obtain ⟨p0, o0, rfl, _, hcell0⟩ := hc0 (by omega)
        obtain ⟨p1, o1, rfl, _, hcell1⟩ := hc1 (by omega)
        obtain ⟨p2, o2, rfl, _, hcell2⟩ := hc2 (by omega)
        have k0 : k < keys.length := by omega
        have k1 : k < mins.length := by omega
        have k2 : k < maxs.length := by omega
        have kl : k < l.length := by rw [HLEN.out]; exact hlt
        have hg0 := hcell0 k k0
        have hg1 := hcell1 k k1
        have hg2 := hcell2 k k2
        have HG : Hid (l.getD k d0 = ⟨keys[k], mins[k], maxs[k]⟩) := by
          show List.getD _ _ _ = _
          rw [gd kl]
          have e := HL.out
          subst e
          exact ents_get k kl k0 k1 k2
        generalize keys[k] = yk at hg0 HG
        generalize mins[k] = ymn at hg1 HG
        generalize maxs[k] = ymx at hg2 HG
        clear hcell0 hcell1 hcell2 hc0 hc1 hc2 hl0 hl1 hl2
        have hlt' : (k : Int) < (len0 : Int) := by omega
        by_cases hkk : yk = ek
        · have hq : (yk.toList == ek.toList) = true := by rw [hkk]; simp
          have HKK := hide hkk
          clear hkk
          by_cases h1 : ymn ≤ emn
          · by_cases h2 : emx ≤ ymx
            · go_wp2
              go_round
              case rel => exact ⟨k + 1, true, by omega, by go_num, rfl, Cont.hit (by rw [HG.out]; exact ⟨HKK.out, h1, h2⟩)⟩
              case measure => simp [intOf]; omega
            · go_wp2
              go_round
              case rel => exact ⟨k + 1, bb, by omega, by go_num, rfl, HC.out.miss (by rw [HG.out]; rintro ⟨_, _, h⟩; simp at h; omega)⟩
              case measure => simp [intOf]; omega
          · go_wp2
            go_round
            case rel => exact ⟨k + 1, bb, by omega, by go_num, rfl, HC.out.miss (by rw [HG.out]; rintro ⟨_, h, _⟩; simp at h; omega)⟩
            case measure => simp [intOf]; omega
        · have hq : (yk.toList == ek.toList) = false := by rw [eqB]; simpa using hkk
          have HKK := hide hkk
          clear hkk
          go_wp2
          go_round
          case rel => exact ⟨k + 1, bb, by omega, by go_num, rfl, HC.out.miss (by rw [HG.out]; rintro ⟨h, _, _⟩; exact HKK.out h)⟩
          case measure => simp [intOf]; omega
      · obtain rfl : k = len0 := by omega
        go_wp2
        go_meet
        case rel => exact ⟨bb, rfl, rfl, HC⟩
  case rest =>
    obtain ⟨bb, rfl, rfl, HC⟩ := hcut
    have hswa : w.heap.size < wc.heap.size := by have := HBA.out.size; omega
    have hins := insertCoalesce ek emn emx w.heap.size l wc HEA.out hswa (by rw [HLEN.out]; exact b0) HFIT.out be bx W3.out HSHORT.out
    rw [HLEN.out] at hins
    have HINS := hide hins
    clear hins
    go_wp2_with fail
    refine HINS.out.mono ?_
    rintro e w2 ⟨r, g, c, hsw, rfl, hEr, hgw, hgl, hbI⟩
    have HSW := hide hsw
    have HER := hide hEr
    have HBI := hide hbI
    obtain ⟨y0, y1, y2⟩ := three_below hbI x0 x1 x2
    clear hsw hEr hbI x0 x1 x2
    have hadd := add ek emn emx w.heap.size l w2 (HEA.out.below HBI.out hswa) (by have := HBI.out.size; omega) (by rw [HLEN.out]; exact b0) HFIT.out be bx (canon_mono HD.out _)
    rw [HLEN.out] at hadd
    have HADD := hide hadd
    clear hadd
    go_wp2_with fail
    refine HADD.out.mono ?_
    rintro e w3 ⟨hbA, i, j, rr, hF, hR, hcase⟩
    have HPL := hide (place HD.out (e := ⟨ek, emn, emx⟩) hee' hF hR)
    have HRO := hide (swept_all HPL.out HSW.out)
    have hCon : Held l ⟨ek, emn, emx⟩ i j ↔ bb = true := by
      rw [HPL.out.contained, HLEN.out]
      exact HC.out.symm
    have HOL : Hid ((addOut l ⟨ek, emn, emx⟩ i j).length ≤ 65537) := by
      have h1 := HPL.out.jl
      have h2 := HPL.out.ij
      have h3 := HLEN.out
      show List.length _ ≤ _
      simp [addOut]
      omega
    have HB3 : Hid (Below w.heap.size w w3) := HBA.out.trans ((HBI.out.trans (hbA.mono HBI.out.size)).mono (by omega))
    have HBA2 := hide hbA
    have HM := hide (fun m => matches_ w.heap.size a0 a1 a2 len0 cap0 cap1 cap2 len0 keys mins maxs (w3.drewN m) (W0.out.below (below_drewN HB3.out m) (Nat.le_refl _)) (W1.out.below (below_drewN HB3.out m) (Nat.le_refl _)) (W2.out.below (below_drewN HB3.out m) (Nat.le_refl _)) (by omega) (by rw [HL.out]; exact (HEA.out.below HBI.out hswa).below (below_drewN HBA2.out m) (by have := HBI.out.size; omega)))
    clear hF hR hbA HINS HADD
    rcases hcase with ⟨hH, rfl⟩ | ⟨hH, g2, c2, rfl, hE2, hg2w, hg2l, hc2⟩
    · have hbb : bb = true := hCon.1 hH
      subst hbb
      have hrl : r = l := HRO.out.trans (held_out HPL.out hH)
      subst hrl
      have hs := same w.heap.size g r.length c r w3 ((HEA.out.below HBI.out hswa).below HBA2.out (by have := HBI.out.size; omega)) (HER.out.below HBA2.out hgl) (by rw [HLEN.out]; omega)
      rw [HLEN.out] at hs ⊢
      have HSS := hide hs
      clear hs hCon hH
      go_wp2_with fail
      refine HSS.out.mono ?_
      rintro e w4 ⟨rfl, m, rfl⟩
      go_wp2_with fail
      refine (HM.out m).mono ?_
      rintro e w5 ⟨rfl, m2, rfl⟩
      go_wp2
      go_ret
      exact ⟨rfl, below_drewN HB3.out _⟩
    · have hbb : bb = false := by
        cases bb with
        | false => rfl
        | true => exact absurd (hCon.2 rfl) hH
      subst hbb
      have hro := HRO.out
      subst hro
      have hs := same g2 g c2 c (addOut l ⟨ek, emn, emx⟩ i j) w3 hE2 (HER.out.below HBA2.out hgl) HOL.out
      have HSS := hide hs
      clear hs hCon hH hE2 hc2
      generalize (addOut l ⟨ek, emn, emx⟩ i j).length = on at *
      go_wp2_with fail
      refine HSS.out.mono ?_
      rintro e w4 ⟨rfl, m, rfl⟩
      go_wp2_with fail
      refine (HM.out m).mono ?_
      rintro e w5 ⟨rfl, m2, rfl⟩
      go_wp2
      go_ret
      exact ⟨rfl, below_drewN HB3.out _⟩

/-! ### THE ROW's STEP -/
set_option maxRecDepth 100000 in
theorem lifted (os : Os) (started : os.Started) (H : Type) (enc : TypeId × Value → H) :
    ReturnsInHanded {} Try.checked os 3 .any (Rows.fnAddMatchesInsertThenCoalesceSpec.pre6 enc Try.prog Try.f3 Rows.fnAddMatchesInsertThenCoalesceRow.domain false) (Rows.fnAddMatchesInsertThenCoalesceSpec.post enc Try.prog Try.f3 false true false false) := by
  refine returnsInHanded_of_change (C := Try.checked) own started (by kernel_rfl) Try.func3
    (ChangeSpec.witness6 (enc := enc) (C := Try.checked) false ⟨#[], #[.slice none 0 0, .slice none 0 0, .slice none 0 0, .string ByteArray.empty, .int .i64 0, .int .i64 0], []⟩ 8 (by kernel_rfl) (by kernel_rfl) (by kernel_rfl) (by kernel_rfl)) ?_
  intro W base args ds gs before hval0 hW hcnd _
  have hval : ∀ (j : Nat) t v, Try.f3.params[j]? = some t → args[j]? = some v → Value.okWide Try.prog W .any base t v := hval0
  have hW' := hW
  obtain ⟨p, q, hA0, hV, rfl, hfz, hnd⟩ := hW
  have hA : DataW.TrodAll enc Try.prog W 0 (fun _ => true) true Try.f3.params.toList args.toList ds p := hA0
  rw [Try.params3] at hA hval
  obtain ⟨v0, vs0, d0, ds0, p0, q0, hargs, rfl, rfl, h0, r0⟩ := trodAll_cons hA
  obtain ⟨v1, vs1, d1, ds1, p1, q1, rfl, rfl, rfl, h1, r1⟩ := trodAll_cons r0
  obtain ⟨v2, vs2, d2, ds2, p2, q2, rfl, rfl, rfl, h2, r2⟩ := trodAll_cons r1
  obtain ⟨v3, vs3, d3, ds3, p3, q3, rfl, rfl, rfl, h3, r3⟩ := trodAll_cons r2
  obtain ⟨v4, vs4, d4, ds4, p4, q4, rfl, rfl, rfl, h4, r4⟩ := trodAll_cons r3
  obtain ⟨v5, vs5, d5, ds5, p5, q5, rfl, rfl, rfl, h5, r5⟩ := trodAll_cons r4
  obtain ⟨rfl, rfl, rfl⟩ := trodAll_nil r5
  obtain rfl : args = #[v0, v1, v2, v3, v4, v5] := by cases args; simp_all
  obtain ⟨rfl, rfl⟩ := trodVars_none hV
  obtain ⟨a0, len0, cap0, rfl⟩ := okWide_slice Try.underlying22 (hval 0 22 v0 rfl rfl)
  have k0 := h0
  have lt0 : ∀ x ∈ p0, x.block < W.heap.size := by obtain ⟨m, hm⟩ := k0; exact DataW.trod_lt m _ _ _ hm
  obtain ⟨z0, w0, m0⟩ := open_Strs h0
  obtain ⟨a1, len1, cap1, rfl⟩ := okWide_slice Try.underlying23 (hval 1 23 v1 rfl rfl)
  have k1 := h1
  have lt1 : ∀ x ∈ p1, x.block < W.heap.size := by obtain ⟨m, hm⟩ := k1; exact DataW.trod_lt m _ _ _ hm
  obtain ⟨z1, w1, m1⟩ := open_Ints h1
  obtain ⟨a2, len2, cap2, rfl⟩ := okWide_slice Try.underlying23 (hval 2 23 v2 rfl rfl)
  have k2 := h2
  have lt2 : ∀ x ∈ p2, x.block < W.heap.size := by obtain ⟨m, hm⟩ := k2; exact DataW.trod_lt m _ _ _ hm
  obtain ⟨z2, w2, m2⟩ := open_Ints h2
  obtain ⟨a3, rfl, rfl, rfl, w3⟩ := open_string Try.underlying9 (hval 3 9 v3 rfl rfl) h3
  obtain ⟨a4, rfl, rfl, rfl, w4⟩ := open_int Try.underlying2 (hval 4 2 v4 rfl rfl) h4
  obtain ⟨a5, rfl, rfl, rfl, w5⟩ := open_int Try.underlying2 (hval 5 2 v5 rfl rfl) h5
  clear hA0 hval0
  refine (walk a0 len0 cap0 z0 a1 len1 cap1 z1 a2 len2 cap2 z2 a3 a4 a5 W w0 w1 w2 m0 m1 m2 w3 w4 w5).mono fun e W' ⟨he, bel⟩ => ?_
  subst he
  exact ⟨_, rfl, _, _, _, [], _, [], hW', trodAll_mk1 (shut_bool Try.underlying4 _), (trodAll_cons_mk (Below.trod laidOut (by kernel_rfl) (of_decide_eq_true (by kernel_rfl)) k0 bel lt0) (trodAll_cons_mk (Below.trod laidOut (by kernel_rfl) (of_decide_eq_true (by kernel_rfl)) k1 bel lt1) (trodAll_cons_mk (Below.trod laidOut (by kernel_rfl) (of_decide_eq_true (by kernel_rfl)) k2 bel lt2) (trodAll_cons_mk (shut_string Try.underlying9 w3) (trodAll_cons_mk (shut_int Try.underlying2 w4) (trodAll_cons_mk (shut_int Try.underlying2 w5) trodAll_mk0)))))), rfl, bel.frame _, fun h => by cases h⟩

theorem over : Rows.fnAddMatchesInsertThenCoalesceRow.holds Try.pinned (OpenSpec.ofChange Rows.fnAddMatchesInsertThenCoalesceSpec) :=
  OpenClaim.holds_of_wide 3 Try.f3 rfl rfl rfl rfl rfl rfl rfl ⟨rfl, rfl, rfl, rfl, rfl⟩ rfl rfl rfl rfl rfl (by kernel_rfl) Try.func3 (by kernel_rfl)
    (of_decide_eq_true (by kernel_rfl)) (by unfold Func.isWrapper; first | (rw [if_pos (by decide +kernel)]; kernel_rfl) | (rw [if_neg (by decide +kernel)]; exact ⟨rfl, rfl⟩))
    (fun os started H enc _ => lifted os started H enc)

end AddLaw

/-- THE STATEMENT. -/
theorem addMatchesInsertThenCoalesce : Rows.FnAddMatchesInsertThenCoalesceSaid := AddLaw.over
end Go.Proofs.Qxb6604107a
