import Derived.Test.Qxb6604107aSweepBase
namespace Go.Proofs.Qxb6604107a
open Go.ChangeShapes Go.WideShapes Go.ChangeAt Go.RowKit
set_option linter.unusedVariables false

def InsSaid (l : List En) (e : En) (w w' : World) (e' : Ending) : Prop :=
  ∃ r g c, SweptTo (insE e l) (l.length + 1) r ∧ e' = .returned (.slice (some ⟨g, 0, none⟩) r.length c) ∧ Ents w' g 0 r ∧ w.heap.size ≤ g ∧ g < w'.heap.size ∧ Below w.heap.size w w'

set_option maxHeartbeats 4000000 in
set_option maxRecDepth 100000 in
theorem insertCoalesce (ek : ByteArray) (emn emx : Int) (b : Nat) (l : List En) (w : World) (hE : Ents w b 0 l) (hb : b < w.heap.size) (hn : l.length ≤ 65536) (hF : Fit l)
    (be : -9223372036854775808 ≤ emn ∧ emn ≤ 9223372036854775807) (bx : -9223372036854775808 ≤ emx ∧ emx ≤ 9223372036854775807) (hke : ek.size ≤ maxLen) (hkl : ∀ e ∈ l, e.key.size ≤ maxLen) :
    Calls Try.prog 12 #[.slice (some ⟨b, 0, none⟩) l.length l.length, .agg #[.string ek, .int .i64 emn, .int .i64 emx]] w fun e' w' => InsSaid l ⟨ek, emn, emx⟩ w w' e' := by
  have HB0 : Hid (Below w.heap.size w (w.alloc (.cells #[.string ek, .int .i64 emn, .int .i64 emx] 30))) := (Below.refl _ _).alloc (Nat.le_refl _) _
  have HBX := hide (box_cells w (.string ek) (.int .i64 emn) (.int .i64 emx))
  have HE := hide hE
  have HF := hide hF
  have HK := hide hkl
  have HKE := hide hke
  have HBE := hide (And.intro be bx)
  clear hE hF hkl hke be bx
  generalize hP : InsSaid l ⟨ek, emn, emx⟩ w = P
  have HP := hide hP
  clear hP
  obtain ⟨i0, hi, hz0, hz1, hz2⟩ := info_parts Try.info30
  generalize hnn : l.length = n at *
  have HN : Hid (l.length = n) := hnn
  clear hnn
  go_enter Try.func12, Try.ntmps12
  go_upto_block 0 with (at_make; refine wpList_make_own _ rfl _ _ 27 rfl (w.heap.size + 1) 30 i0 _ 3 Try.underlying27 hi hz0 hz1 .i64 .i64 _ (n + 1) rfl rfl (by omega) (by rw [hz2]; omega) (by unfold maxLen; omega) (by simp) ?_; intro w1 hown hgrow)
  simp only [World.size_alloc] at hown
  have HO := hide hown
  have HB1 : Hid (Below (w.heap.size + 1) (w.alloc (.cells #[.string ek, .int .i64 emn, .int .i64 emx] 30)) w1) := (Below.refl _ _).grown hgrow (by simp) (fun k h => by cases h)
  clear hown hgrow
  go_cut [5, 6, 7] (fun v pl _ wc => ∃ (o : List En) (q : Bool), Hid (insTo ⟨ek, emn, emx⟩ l n = (o, q)) ∧ v = .slice (some ⟨w.heap.size + 1, 0, none⟩) o.length (n + 1) ∧ pl = .bool q ∧ Hid (wc.ownsRow (w.heap.size + 1) 30 3 (.slice (some ⟨w.heap.size + 1, 0, none⟩) o.length (n + 1)) o.length (ecells o)) ∧ Hid (Below (w.heap.size + 1) (w.alloc (.cells #[.string ek, .int .i64 emn, .int .i64 emx] 30)) wc))
  case first =>
    go_wp2
    go_loopg [5, 6, 7] n (fun gx v pl kv wr => ∃ (k : Nat) (o : List En) (q : Bool), k ≤ n ∧ n - k ≤ gx ∧ kv = .int .i64 k ∧ Hid (insTo ⟨ek, emn, emx⟩ l k = (o, q)) ∧ v = .slice (some ⟨w.heap.size + 1, 0, none⟩) o.length (n + 1) ∧ pl = .bool q ∧ Hid (wr.ownsRow (w.heap.size + 1) 30 3 (.slice (some ⟨w.heap.size + 1, 0, none⟩) o.length (n + 1)) o.length (ecells o)) ∧ Hid (Below (w.heap.size + 1) (w.alloc (.cells #[.string ek, .int .i64 emn, .int .i64 emx] 30)) wr))
    case atStart => exact ⟨0, [], false, Nat.zero_le _, by omega, rfl, rfl, rfl, rfl, HO.out, HB1.out⟩
    case round =>
      obtain ⟨k, o, p, hk, hgx, rfl, HI, rfl, rfl, HO2, HB2⟩ := hrel
      by_cases hlt : k < n
      · have HB3 : Hid (Below w.heap.size w wr) := HB0.out.trans (HB2.out.mono (by omega))
        have hx0 : wr.cell? ⟨w.heap.size, 0, none⟩ = some (.string ek) := (HB2.out.cell (by exact Nat.lt_succ_self _)).trans HBX.out.1
        have hx1 : wr.cell? ⟨w.heap.size, 1, none⟩ = some (.int .i64 emn) := (HB2.out.cell (by exact Nat.lt_succ_self _)).trans HBX.out.2.1
        have hx2 : wr.cell? ⟨w.heap.size, 2, none⟩ = some (.int .i64 emx) := (HB2.out.cell (by exact Nat.lt_succ_self _)).trans HBX.out.2.2
        have hml : k < l.length := by rw [HN.out]; omega
        have hcell := (HE.out k hml).below HB3.out hb
        have HGD : Hid (l.getD k d0 = l[k]) := by simp [Hid, List.getD, hml]
        have HKY := hide (HK.out _ (List.getElem_mem hml))
        generalize hy : l[k] = y at hcell HGD HKY
        clear hy
        obtain ⟨yk, ymn, ymx⟩ := y
        obtain ⟨e0, e1, e2⟩ := hcell
        dsimp only at e0 e1 e2
        simp only [Nat.zero_add] at e0 e1 e2
        have hlt' : (k : Int) < (n : Int) := by omega
        have hlen : o.length = k + p.toNat := by have := insTo_length ⟨ek, emn, emx⟩ l k; rw [HI.out] at this; exact this
        have HLEN := hide hlen
        have hless := fun W => tbLess ek emn emx yk ymn ymx W HKE.out HKY.out
        have HST : Hid (insTo ⟨ek, emn, emx⟩ l (k + 1) = if p = false ∧ lessE ⟨ek, emn, emx⟩ ⟨yk, ymn, ymx⟩ = true then (o ++ [⟨ek, emn, emx⟩] ++ [⟨yk, ymn, ymx⟩], true) else (o ++ [⟨yk, ymn, ymx⟩], p)) := by
          show insTo _ _ _ = _
          rw [insTo, HI.out, HGD.out]
        generalize lessE ⟨ek, emn, emx⟩ ⟨yk, ymn, ymx⟩ = lb at hless HST
        have HLS := hide hless
        clear hless hlen
        go_upto_region 6 with fail
        go_cut [31] (fun tv wc => ∃ t : Bool, tv = .bool t ∧ Hid (t = true ↔ p = false ∧ lb = true) ∧ Hid (Below wr.heap.size wr wc))
        case first =>
          cases p with
          | true =>
            go_quiet (fail)
            go_wp2
            go_meet
            case rel => exact ⟨false, rfl, by simp [Hid], below_drewN (Below.refl _ _) _⟩
          | false =>
            have HSB : Hid (∀ w2, Below wr.heap.size wr w2 → _) := fun w2 h => six_below h e0 e1 e2 hx0 hx1 hx2
            go_region_held3 (fun w' => w'.cell? ⟨b, k * 3, none⟩ = some (.string yk) ∧ w'.cell? ⟨b, k * 3 + 1, none⟩ = some (.int .i64 ymn) ∧ w'.cell? ⟨b, k * 3 + 2, none⟩ = some (.int .i64 ymx) ∧ w'.cell? ⟨w.heap.size, 0, none⟩ = some (.string ek) ∧ w'.cell? ⟨w.heap.size, 1, none⟩ = some (.int .i64 emn) ∧ w'.cell? ⟨w.heap.size, 2, none⟩ = some (.int .i64 emx)) (go_keep)
              (first | (go_at_call 24; refine (HLS.out _).mono ?_; rintro e w2 ⟨rfl, hb1⟩; have hb2 : Below wr.heap.size wr w2 := Below.trans (Below.drew (Below.refl _ _)) hb1; obtain ⟨s0, s1, s2, s3, s4, s5⟩ := HSB.out w2 hb2))
            have hb3 : Below wr.heap.size wr w2 := by assumption
            go_wp2
            go_meet
            case rel => exact ⟨lb, rfl, by simp [Hid], hb3⟩
        case rest =>
          obtain ⟨t, rfl, HT, HB4⟩ := hcut
          have HB5 : Hid (Below (w.heap.size + 1) (w.alloc (.cells #[.string ek, .int .i64 emn, .int .i64 emx] 30)) wc) := HB2.out.trans (HB4.out.mono (by have := HB2.out.size; simp at this; omega))
          have HO4 := hide (own_below HO2.out HB4.out (own_lt HO2.out))
          obtain ⟨c0, c1, c2, y0, y1, y2⟩ := six_below HB4.out e0 e1 e2 hx0 hx1 hx2
          have hsw : w.heap.size + 1 ≤ wc.heap.size := by have := HB5.out.size; simp at this; omega
          clear e0 e1 e2 hx0 hx1 hx2
          cases t with
          | true =>
            obtain ⟨rfl, rfl⟩ := HT.out.1 rfl
            have HF1 : Hid (o.length + 1 ≤ n + 1) := by have := HLEN.out; simp at this; show _ ≤ _; omega
            have HF2 : Hid (o.length + 1 + 1 ≤ n + 1) := by have := HLEN.out; simp at this; show _ ≤ _; omega
            have HST2 : Hid (insTo ⟨ek, emn, emx⟩ l (k + 1) = (o ++ [⟨ek, emn, emx⟩] ++ [⟨yk, ymn, ymx⟩], true)) := by
              have h := HST.out
              rw [if_pos ⟨rfl, rfl⟩] at h
              exact h
            clear HST HT HLS
            have tok1 : True := trivial
            go_wp2_with (first | (at_builtin; have _t := tok1; refine wpList_append_fits _ rfl (.tmp 32) (.tmp 34) 27 rfl (w.heap.size + 1) 30 i0 3 Try.underlying27 hi hz1 (w.heap.size + 1) o.length (n + 1) (ecells o) rfl (HO4.out.alloc _) ⟨wc.heap.size, 0, none⟩ 1 1 [.string ek, .int .i64 emn, .int .i64 emx] rfl rfl (new_cells _ _ _ _) (three_one _ _ _) HF1.out ?_; intro w3 hown3 hgrow3; have hb3 := below_app hgrow3 hsw (Nat.le_refl _); obtain ⟨d0, d1, d2⟩ := three_at hb3 (by omega) c0 c1 c2; clear tok1) | (at_builtin; refine wpList_append_fits _ rfl (.tmp 36) (.tmp 41) 27 rfl (w.heap.size + 1) 30 i0 3 Try.underlying27 hi hz1 (w.heap.size + 1) (o.length + 1) (n + 1) _ rfl (hown3.alloc _) ⟨w3.heap.size, 0, none⟩ 1 1 [.string yk, .int .i64 ymn, .int .i64 ymx] rfl rfl (new_cells _ _ _ _) (three_one _ _ _) HF2.out ?_; intro w4 hown4 hgrow4))
            go_roundg (n - (k + 1))
            case measure => omega
            case rel =>
              have hL : (o ++ [(⟨ek, emn, emx⟩ : En)] ++ [(⟨yk, ymn, ymx⟩ : En)]).length = o.length + 1 + 1 := by simp
              refine ⟨k + 1, _, true, by omega, Nat.le_refl _, by go_num, HST2, by rw [hL], rfl, ?_, HB5.out.trans (hb3.trans (below_app hgrow4 (by have := hb3.size; omega) (Nat.le_refl _)))⟩
              rw [hL, ecells_snoc, ecells_snoc]
              exact hown4
          | false =>
            have HST2 : Hid (insTo ⟨ek, emn, emx⟩ l (k + 1) = (o ++ [⟨yk, ymn, ymx⟩], p)) := by
              have h := HST.out
              rw [if_neg (fun h => by cases HT.out.2 h)] at h
              exact h
            have HF1 : Hid (o.length + 1 ≤ n + 1) := by have := HLEN.out; have h1 : p.toNat ≤ 1 := Bool.toNat_le p; show _ ≤ _; omega
            clear HST HT HLS
            go_wp2_with (at_builtin; refine wpList_append_fits _ rfl (.tmp 36) (.tmp 41) 27 rfl (w.heap.size + 1) 30 i0 3 Try.underlying27 hi hz1 (w.heap.size + 1) o.length (n + 1) (ecells o) rfl (HO4.out.alloc _) ⟨wc.heap.size, 0, none⟩ 1 1 [.string yk, .int .i64 ymn, .int .i64 ymx] rfl rfl (new_cells _ _ _ _) (three_one _ _ _) HF1.out ?_; intro w3 hown3 hgrow3)
            go_roundg (n - (k + 1))
            case measure => omega
            case rel =>
              have hL : (o ++ [(⟨yk, ymn, ymx⟩ : En)]).length = o.length + 1 := by simp
              refine ⟨k + 1, _, p, by omega, Nat.le_refl _, by go_num, HST2, by rw [hL], rfl, ?_, HB5.out.trans (below_app hgrow3 hsw (Nat.le_refl _))⟩
              rw [hL, ecells_snoc]
              exact hown3
      · obtain rfl : k = n := by omega
        go_wp2
        go_meet
        case rel => exact ⟨o, p, HI, rfl, rfl, HO2, HB2⟩
  case rest =>
    obtain ⟨o, q, HI, rfl, rfl, HO2, HB2⟩ := hcut
    have HLEN : Hid (o.length = n + q.toNat) := by have := insTo_length ⟨ek, emn, emx⟩ l n; rw [HI.out] at this; exact this
    have HIN : Hid (insE ⟨ek, emn, emx⟩ l = if q = true then o else o ++ [⟨ek, emn, emx⟩]) := by show insE _ _ = _; unfold insE; rw [HN.out, HI.out]
    have hx0 : wc.cell? ⟨w.heap.size, 0, none⟩ = some (.string ek) := (HB2.out.cell (by exact Nat.lt_succ_self _)).trans HBX.out.1
    have hx1 : wc.cell? ⟨w.heap.size, 1, none⟩ = some (.int .i64 emn) := (HB2.out.cell (by exact Nat.lt_succ_self _)).trans HBX.out.2.1
    have hx2 : wc.cell? ⟨w.heap.size, 2, none⟩ = some (.int .i64 emx) := (HB2.out.cell (by exact Nat.lt_succ_self _)).trans HBX.out.2.2
    have hsw : w.heap.size + 1 ≤ wc.heap.size := by have := HB2.out.size; simp at this; omega
    go_upto_if 44 with fail
    obtain ⟨wa, rfl⟩ : ∃ wa : World, wa = wc := ⟨_, rfl⟩
    go_cut [5] (fun v wc => v = .slice (some ⟨w.heap.size + 1, 0, none⟩) (n + 1) (n + 1) ∧ Hid (wc.ownsRow (w.heap.size + 1) 30 3 (.slice (some ⟨w.heap.size + 1, 0, none⟩) (n + 1) (n + 1)) (n + 1) (ecells (insE ⟨ek, emn, emx⟩ l))) ∧ Hid (Below w.heap.size w wc))
    case first =>
      cases q with
      | true =>
        have HL2 : Hid (o.length = n + 1) := HLEN.out
        have HIN2 : Hid (insE ⟨ek, emn, emx⟩ l = o) := HIN.out.trans (if_pos rfl)
        clear HIN
        go_wp2
        go_meet
        case rel => 
          rw [HIN2.out]
          refine ⟨by rw [HL2.out], ?_, HB0.out.trans (HB2.out.mono (by omega))⟩
          have h := HO2.out
          rw [HL2.out] at h
          exact h
      | false =>
        have HL2 : Hid (o.length = n) := HLEN.out
        have HIN2 : Hid (insE ⟨ek, emn, emx⟩ l = o ++ [⟨ek, emn, emx⟩]) := HIN.out.trans (if_neg (by simp))
        clear HIN
        have HF1 : Hid (o.length + 1 ≤ n + 1) := by have := HL2.out; show _ ≤ _; omega
        go_wp2_with (at_builtin; refine wpList_append_fits _ rfl (.tmp 45) (.tmp 47) 27 rfl (w.heap.size + 1) 30 i0 3 Try.underlying27 hi hz1 (w.heap.size + 1) o.length (n + 1) (ecells o) rfl (HO2.out.alloc _) ⟨wa.heap.size, 0, none⟩ 1 1 [.string ek, .int .i64 emn, .int .i64 emx] rfl rfl (new_cells _ _ _ _) (three_one _ _ _) HF1.out ?_; intro w3 hown3 hgrow3)
        go_meet
        case rel =>
          rw [HIN2.out]
          rw [HL2.out] at hown3
          refine ⟨by rw [HL2.out], ?_, HB0.out.trans ((HB2.out.trans (below_app hgrow3 hsw (Nat.le_refl _))).mono (by omega))⟩
          rw [ecells_snoc]
          exact hown3
    case rest =>
      obtain ⟨rfl, HO3, HB3⟩ := hcut
      clear hx0 hx1 hx2 HO2 HB2 HIN HLEN HI HBX HB0
      have HIL : Hid ((insE ⟨ek, emn, emx⟩ l).length = n + 1) := by show List.length _ = _; rw [insE_length, HN.out]
      generalize hoo : insE ⟨ek, emn, emx⟩ l = O at HIL HO3
      have HOO := hide hoo
      clear hoo
      have hsw2 : w.heap.size + 1 < wc.heap.size := own_lt HO3.out
      obtain ⟨wb, rfl⟩ : ∃ wb : World, wb = wc := ⟨_, rfl⟩
      go_upto_block 2 with (at_make; refine wpList_make_own _ rfl _ _ 27 rfl wb.heap.size 30 i0 _ 3 Try.underlying27 hi hz0 hz1 .i64 .i64 _ (n + 1) rfl rfl (by omega) (by rw [hz2]; omega) (by unfold maxLen; omega) (Nat.le_refl _) ?_; intro w2 hown2 hgrow2)
      have HFO : Hid (Fit O) := by
        intro x hx
        rw [← HOO.out] at hx
        rcases insE_mem x hx with rfl | hx
        · exact HBE.out
        · exact HF.out x hx
      have HS0 : Hid (SInv w (w.heap.size + 1) wb.heap.size n O [] w2) := ⟨HO3.out.kept hgrow2 (.inr (by simp [Value.ownBlock])), hown2, HB3.out.grown hgrow2 HB3.out.size (fun k h => by cases h)⟩
      clear hown2 hgrow2 HO3 HB3
      generalize hg1 : w.heap.size + 1 = g1 at *
      generalize hg2 : wb.heap.size = g2 at *
      have h1w : w.heap.size ≤ g1 := by omega
      clear hg1 hg2 hsw
      have HG12 : Hid (g1 < g2) := hsw2
      go_cut [8, 9] (fun v _ wc => ∃ r : List En, v = .slice (some ⟨g2, 0, none⟩) r.length (n + 1) ∧ Hid (SweptTo O (n + 1) r) ∧ Hid (SInv w g1 g2 n O r wc))
      case first =>
        go_wp2
        go_loopg [8, 9] (n + 1) (fun gx v kv wr => ∃ (k : Nat) (r : List En), k ≤ n + 1 ∧ n + 1 - k ≤ gx ∧ kv = .int .i64 k ∧ v = .slice (some ⟨g2, 0, none⟩) r.length (n + 1) ∧ Hid (SweptTo O k r) ∧ Hid (SInv w g1 g2 n O r wr))
        case atStart => exact ⟨0, [], Nat.zero_le _, by omega, rfl, rfl, rfl, HS0.out⟩
        case round =>
          obtain ⟨k, r, hk, hgx, rfl, rfl, HSW, HI⟩ := hrel
          by_cases hlt : k < n + 1
          · have hml : k < O.length := by rw [HIL.out]; omega
            obtain ⟨c0, c1, c2⟩ := HI.out.cells HIL.out k hml
            have HGD : Hid (O.getD k d0 = O[k]) := by simp [Hid, List.getD, hml]
            have hfx := HFO.out _ (List.getElem_mem hml)
            generalize hy : O[k] = x at c0 c1 c2 HGD hfx
            clear hy
            obtain ⟨xk, xmn, xmx⟩ := x
            dsimp only at c0 c1 c2 hfx
            have hFr := SweptTo.fit HFO.out (by have := HIL.out; omega) HSW.out
            have hr1 : r.length ≤ n + 1 := by have := HSW.out.le; omega
            have hrk : r.length ≤ k := HSW.out.le
            have hlt' : (k : Int) < (n : Int) + 1 := by omega
            have hg1 : g1 < wr.heap.size := own_lt HI.out.out
            have hg2 : g2 < wr.heap.size := own_lt HI.out.res
            have HSTEP : Hid (∀ r', Sweep r ⟨xk, xmn, xmx⟩ r' → SweptTo O (k + 1) r') := fun r' h => ⟨r, HSW.out, by rw [HGD.out]; exact h⟩
            rcases nil_or_snoc r with rfl | ⟨p, a, rfl⟩
            · clear hFr hfx
              go_wp2_with (at_builtin; refine wpList_append_fits _ rfl (.tmp 111) (.tmp 113) 27 rfl g2 30 i0 3 Try.underlying27 hi hz1 g2 0 (n + 1) (ecells []) rfl ((HI.out.res.alloc _).alloc _) ⟨wr.heap.size + 1, 0, none⟩ 1 1 [.string xk, .int .i64 xmn, .int .i64 xmx] rfl rfl (new_cells2 _ _ _ _ _) (three_one _ _ _) (by omega) ?_; intro w3 hown3 hgrow3)
              go_roundg (n + 1 - (k + 1))
              case measure => omega
              case rel => exact ⟨k + 1, [] ++ [⟨xk, xmn, xmx⟩], by omega, Nat.le_refl _, by go_num, rfl, HSTEP.out _ Sweep.nil, ((HI.out.alloc _).alloc _).app HG12.out h1w hown3 hgrow3⟩
            · obtain ⟨ak, amn, amx⟩ := a
              obtain ⟨l0, l1, l2, lf⟩ := HI.out.last
              have hfa := (hFr ⟨ak, amn, amx⟩ (by simp)).2
              dsimp only at l0 l1 l2 hfa
              have hpl : (p ++ [(⟨ak, amn, amx⟩ : En)]).length = p.length + 1 := by simp
              have HPL := hide hpl
              rw [hpl] at hr1 hrk
              have HRES : Hid (wr.ownsRow g2 30 3 (.slice (some ⟨g2, 0, none⟩) (p.length + 1) (n + 1)) (p.length + 1) (ecells (p ++ [⟨ak, amn, amx⟩]))) := by
                have h := HI.out.res
                rw [hpl] at h
                exact h
              rw [hpl]
              clear hpl hFr
              by_cases hkk : ak = xk
              · have hq : (ak.toList == xk.toList) = true := by rw [hkk]; simp
                by_cases h1 : xmn ≤ amx
                · have HJ : Hid (Joins ⟨ak, amn, amx⟩ ⟨xk, xmn, xmx⟩) := ⟨hkk, .inl h1⟩
                  clear hkk
                  by_cases hmx : amx < xmx
                  · go_wp2
                    go_roundg (n + 1 - (k + 1))
                    case measure => omega
                    case rel => exact ⟨k + 1, p ++ [(⟨ak, amn, xmx⟩ : En)], by omega, Nat.le_refl _, by go_num, by simp, HSTEP.out _ (Sweep.join HJ.out (by show xmx = max amx xmx; omega)), ((HI.out.put HG12.out h1w xmx).alloc _).alloc _⟩
                  · go_wp2
                    go_roundg (n + 1 - (k + 1))
                    case measure => omega
                    case rel => exact ⟨k + 1, p ++ [(⟨ak, amn, amx⟩ : En)], by omega, Nat.le_refl _, by go_num, by simp, HSTEP.out _ (Sweep.join HJ.out (by show amx = max amx xmx; omega)), (HI.out.alloc _).alloc _⟩
                · have h2 : amx < xmn := by omega
                  by_cases h3 : amx + 1 = xmn
                  · have HJ : Hid (Joins ⟨ak, amn, amx⟩ ⟨xk, xmn, xmx⟩) := ⟨hkk, .inr h3⟩
                    have h4 : (amx + 1 == xmn) = true := by simpa using h3
                    clear hkk h3
                    by_cases hmx : amx < xmx
                    · go_wp2
                      go_roundg (n + 1 - (k + 1))
                      case measure => omega
                      case rel => exact ⟨k + 1, p ++ [(⟨ak, amn, xmx⟩ : En)], by omega, Nat.le_refl _, by go_num, by simp, HSTEP.out _ (Sweep.join HJ.out (by show xmx = max amx xmx; omega)), ((HI.out.put HG12.out h1w xmx).alloc _).alloc _⟩
                    · go_wp2
                      go_roundg (n + 1 - (k + 1))
                      case measure => omega
                      case rel => exact ⟨k + 1, p ++ [(⟨ak, amn, amx⟩ : En)], by omega, Nat.le_refl _, by go_num, by simp, HSTEP.out _ (Sweep.join HJ.out (by show amx = max amx xmx; omega)), (HI.out.alloc _).alloc _⟩
                  · have HNJ : Hid (¬ Joins ⟨ak, amn, amx⟩ ⟨xk, xmn, xmx⟩) := fun h => by rcases h.2 with h | h <;> simp at h <;> omega
                    have h4 : (amx + 1 == xmn) = false := by simpa using h3
                    clear hkk h3
                    go_wp2_with (at_builtin; (refine wpList_append_fits _ rfl (.tmp 111) (.tmp 113) 27 rfl g2 30 i0 3 Try.underlying27 hi hz1 g2 (p.length + 1) (n + 1) (ecells (p ++ [⟨ak, amn, amx⟩])) rfl (((HRES.out.alloc _).alloc _).alloc _) ⟨wr.heap.size + 2, 0, none⟩ 1 1 [.string xk, .int .i64 xmn, .int .i64 xmx] rfl rfl (new_cells3 _ _ _ _ _ _) (three_one _ _ _) (by omega) ?_); intro w3 hown3 hgrow3)
                    go_roundg (n + 1 - (k + 1))
                    case measure => omega
                    case rel => exact ⟨k + 1, p ++ [(⟨ak, amn, amx⟩ : En)] ++ [(⟨xk, xmn, xmx⟩ : En)], by omega, Nat.le_refl _, by go_num, by simp, HSTEP.out _ (Sweep.part HNJ.out), (((HI.out.alloc _).alloc _).alloc _).app' HPL.out HG12.out h1w hown3 hgrow3⟩
              · have hq : (ak.toList == xk.toList) = false := by rw [eqB]; simpa using hkk
                have HNJ : Hid (¬ Joins ⟨ak, amn, amx⟩ ⟨xk, xmn, xmx⟩) := fun h => hkk h.1
                clear hkk
                go_wp2_with (at_builtin; (refine wpList_append_fits _ rfl (.tmp 111) (.tmp 113) 27 rfl g2 30 i0 3 Try.underlying27 hi hz1 g2 (p.length + 1) (n + 1) (ecells (p ++ [⟨ak, amn, amx⟩])) rfl (((HRES.out.alloc _).alloc _).alloc _) ⟨wr.heap.size + 2, 0, none⟩ 1 1 [.string xk, .int .i64 xmn, .int .i64 xmx] rfl rfl (new_cells3 _ _ _ _ _ _) (three_one _ _ _) (by omega) ?_); intro w3 hown3 hgrow3)
                go_roundg (n + 1 - (k + 1))
                case measure => omega
                case rel => exact ⟨k + 1, p ++ [(⟨ak, amn, amx⟩ : En)] ++ [(⟨xk, xmn, xmx⟩ : En)], by omega, Nat.le_refl _, by go_num, by simp, HSTEP.out _ (Sweep.part HNJ.out), (((HI.out.alloc _).alloc _).alloc _).app' HPL.out HG12.out h1w hown3 hgrow3⟩
          · obtain rfl : k = n + 1 := by omega
            go_wp2
            go_meet
            case rel => exact ⟨r, rfl, HSW, HI⟩
      case rest =>
        obtain ⟨r, rfl, HSW, HI⟩ := hcut
        go_wp2
        rw [← HP.out]
        exact ⟨r, g2, n + 1, by rw [HOO.out, HN.out]; exact HSW.out, rfl, ents_of_own HI.out.res rfl, by have := HG12.out; omega, own_lt HI.out.res, HI.out.bel⟩

end Go.Proofs.Qxb6604107a
