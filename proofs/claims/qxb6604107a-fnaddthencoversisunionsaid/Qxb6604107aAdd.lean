import Derived.Test.Qxb6604107aAddBase
namespace Go.Proofs.Qxb6604107a
open Go.ChangeShapes Go.WideShapes Go.ChangeAt Go.RowKit
set_option linter.unusedVariables false

set_option maxHeartbeats 4000000 in
set_option maxRecDepth 100000 in
theorem add (ek : ByteArray) (emn emx : Int) (b : Nat) (l : List En) (w : World) (hE : Ents w b 0 l) (hb : b < w.heap.size) (hn : l.length ≤ 65536) (hF : Fit l)
    (be : -9223372036854775808 ≤ emn ∧ emn ≤ 9223372036854775807) (bx : -9223372036854775808 ≤ emx ∧ emx ≤ 9223372036854775807) (hM : Mono (cmpA ⟨ek, emn, emx⟩) l) :
    Calls Try.prog 13 #[.slice (some ⟨b, 0, none⟩) l.length l.length, .agg #[.string ek, .int .i64 emn, .int .i64 emx]] w fun e' w' => AddSaid l ⟨ek, emn, emx⟩ b w w' e' := by
  have HB0 : Hid (Below w.heap.size w (w.alloc (.cells #[.string ek, .int .i64 emn, .int .i64 emx] 30))) := (Below.refl _ _).alloc (Nat.le_refl _) _
  have HBX := hide (box_cells w (.string ek) (.int .i64 emn) (.int .i64 emx))
  have hse := search25 ek emn emx b 0 l.length l (w.alloc (.cells #[.string ek, .int .i64 emn, .int .i64 emx] 30)) (hE.below HB0.out hb) (Nat.lt_of_lt_of_le hb HB0.out.size) (by omega) hF be hM
  have HSE := hide hse
  have HE := hide hE
  have HF := hide hF
  clear hse hE hF hM
  generalize hP : AddSaid l ⟨ek, emn, emx⟩ b w = P
  have HP := hide hP
  clear hP
  generalize hnn : l.length = n at *
  have HN : Hid (l.length = n) := hnn
  clear hnn
  go_enter Try.func13, Try.ntmps13
  go_upto_block 0 with (go_at_call 25; refine HSE.out.mono ?_; rintro e w1 ⟨i, r, rfl, hf, hb1⟩)
  have hfi : i ≤ n := by rw [← HN.out]; exact hf.le
  have HFO := hide hf
  simp only [World.size_alloc] at hb1
  have HB1 := hide hb1
  have HB2 : Hid (Below w.heap.size w w1) := HB0.out.trans (hb1.mono (by omega))
  have hx0 : w1.cell? ⟨w.heap.size, 0, none⟩ = some (.string ek) := (HB1.out.cell (by exact Nat.lt_succ_self _)).trans HBX.out.1
  have hx1 : w1.cell? ⟨w.heap.size, 1, none⟩ = some (.int .i64 emn) := (HB1.out.cell (by exact Nat.lt_succ_self _)).trans HBX.out.2.1
  have hx2 : w1.cell? ⟨w.heap.size, 2, none⟩ = some (.int .i64 emx) := (HB1.out.cell (by exact Nat.lt_succ_self _)).trans HBX.out.2.2
  clear hf hb1 HSE HBX
  go_cut [8] (fun jv wc => ∃ j m : Nat, jv = .int .i64 j ∧ wc = w1.drewN m ∧ Hid (Run l ⟨ek, emn, emx⟩ i j))
  case first =>
    go_wp2
    go_loopw [8] (fun jv wr => ∃ j m : Nat, i ≤ j ∧ j ≤ n ∧ jv = .int .i64 j ∧ wr = w1.drewN m ∧ Hid (∀ q (h : q < l.length), i ≤ q → q < j → Touch ⟨ek, emn, emx⟩ l[q])) (fun jv _ => n - (intOf jv).toNat)
    case atStart => exact ⟨i, 0, Nat.le_refl _, hfi, rfl, rfl, fun q h h1 h2 => by omega⟩
    case round =>
      obtain ⟨j, m, hij, hjn, rfl, rfl, HR⟩ := hrel
      by_cases hlt : j < n
      · have hml : j < l.length := by rw [HN.out]; omega
        have hcell := (HE.out j hml).below HB2.out hb
        have hfit := (HF.out _ (List.getElem_mem hml)).1
        generalize hy : l[j] = y at hcell hfit
        obtain ⟨yk, ymn, ymx⟩ := y
        have HY : Hid (l[j] = ⟨yk, ymn, ymx⟩) := hy
        clear hy
        obtain ⟨e0, e1, e2⟩ := hcell
        dsimp only at e0 e1 e2 hfit
        simp only [Nat.zero_add] at e0 e1 e2
        have hlt' : (j : Int) < (n : Int) := by omega
        by_cases hk : yk = ek
        · have HK := hide hk
          have hq : (yk.toList == ek.toList) = true := by rw [hk]; simp
          clear hk
          by_cases hle : ymn ≤ emx
          · go_wp2
            go_quiet (fail)
            go_wp2
            go_roundw
            case rel => exact ⟨j + 1, _, by omega, by omega, by go_num, rfl, Run.step HR.out (fun h => by rw [HY.out]; exact ⟨HK.out, .inl hle⟩)⟩
            case measure => simp [intOf]; omega
          · have hd : decide (ymn ≤ emx) = false := by simpa using hle
            have hwr : IntKind.i64.wrap (ymn - 1) = ymn - 1 := by rw [IntKind.wrap_i64]; omega
            by_cases h1 : ymn - 1 = emx
            · have hd1 : (ymn - 1 == emx) = true := by simpa using h1
              have H1 := hide h1
              clear h1
              go_wp2
              go_quiet (fail)
              go_wp2
              go_roundw
              case rel => exact ⟨j + 1, _, by omega, by omega, by go_num, rfl, Run.step HR.out (fun h => by rw [HY.out]; exact ⟨HK.out, .inr H1.out⟩)⟩
              case measure => simp [intOf]; omega
            · have hd1 : (ymn - 1 == emx) = false := by simpa using h1
              have HS : Hid (Run l ⟨ek, emn, emx⟩ i j) := ⟨hij, by have := HN.out; omega, HR.out, fun h ht => by rw [HY.out] at ht; rcases ht.2 with h2 | h2 <;> simp at h2 <;> omega⟩
              clear h1
              go_wp2
              go_quiet (fail)
              go_wp2
              go_meet
              case rel => exact ⟨j, m + nq, rfl, by simp, HS⟩
        · have hq : (yk.toList == ek.toList) = false := by rw [eqB]; simpa using hk
          have HS : Hid (Run l ⟨ek, emn, emx⟩ i j) := ⟨hij, by have := HN.out; omega, HR.out, fun h ht => by rw [HY.out] at ht; exact hk ht.1⟩
          clear hk
          go_wp2
          go_quiet (fail)
          go_wp2
          go_meet
          case rel => exact ⟨j, m + nq, rfl, by simp, HS⟩
      · have hd : decide ((j : Int) < (n : Int)) = false := by simp; omega
        have HS : Hid (Run l ⟨ek, emn, emx⟩ i j) := ⟨hij, by have := HN.out; omega, HR.out, fun h => by have := HN.out; omega⟩
        go_wp2
        go_quiet (fail)
        go_wp2
        go_meet
        case rel => exact ⟨j, m + nq, rfl, by simp, HS⟩
  case rest =>
    obtain ⟨j, m, rfl, rfl, HRun⟩ := hcut
    have hij := HRun.out.ij
    have hjn : j ≤ n := by rw [← HN.out]; exact HRun.out.jl
    go_upto_region 5 with fail
    go_cut [76] (fun tv wc => ∃ (m' : Nat) (t : Bool), tv = .bool t ∧ wc = w1.drewN m' ∧ Hid (t = true ↔ Held l ⟨ek, emn, emx⟩ i j))
    case first =>
      by_cases hji : j = i + 1
      · subst hji
        have hml : i < l.length := by rw [HN.out]; omega
        have hcell := (HE.out i hml).below HB2.out hb
        generalize hy : l[i] = y at hcell
        obtain ⟨yk, ymn, ymx⟩ := y
        have HY : Hid (l[i] = ⟨yk, ymn, ymx⟩) := hy
        clear hy
        obtain ⟨e0, e1, e2⟩ := hcell
        dsimp only at e0 e1 e2
        simp only [Nat.zero_add] at e0 e1 e2
        have hlt' : (i : Int) < (n : Int) := by omega
        have hwr : IntKind.i64.wrap ((i : Int) + 1) = (i : Int) + 1 := by rw [IntKind.wrap_i64]; omega
        have hee : ((i : Int) + 1 == (i : Int) + 1) = true := by simp
        have HH : Hid (Held l ⟨ek, emn, emx⟩ i (i + 1) ↔ ymn ≤ emn ∧ emx ≤ ymx) := ⟨fun ⟨_, h, h1⟩ => by rw [HY.out] at h1; exact h1, fun h => ⟨rfl, hml, by rw [HY.out]; exact h⟩⟩
        by_cases h1 : ymn ≤ emn
        · by_cases h2 : emx ≤ ymx
          · go_quiet (fail)
            go_wp2
            go_meet
            case rel => exact ⟨m + nq, true, rfl, by simp, ⟨fun _ => HH.out.2 ⟨h1, h2⟩, fun _ => rfl⟩⟩
          · have hd : decide (emx ≤ ymx) = false := by simpa using h2
            go_quiet (fail)
            go_wp2
            go_meet
            case rel => exact ⟨m + nq, false, rfl, by simp, ⟨fun h => (by cases h), fun h => (by have := (HH.out.1 h).2; omega)⟩⟩
        · have hd : decide (ymn ≤ emn) = false := by simpa using h1
          go_quiet (fail)
          go_wp2
          go_meet
          case rel => exact ⟨m + nq, false, rfl, by simp, ⟨fun h => (by cases h), fun h => (by have := (HH.out.1 h).1; omega)⟩⟩
      · have hwr : IntKind.i64.wrap ((i : Int) + 1) = (i : Int) + 1 := by rw [IntKind.wrap_i64]; omega
        have hee : ((j : Int) == (i : Int) + 1) = false := by simp; omega
        go_quiet (fail)
        go_wp2
        go_meet
        case rel => exact ⟨m + nq, false, rfl, by simp, ⟨fun h => (by cases h), fun h => absurd h.1 hji⟩⟩
    case rest =>
      obtain ⟨m', t, rfl, rfl, HT⟩ := hcut
      cases t with
      | true =>
        have HH := hide (HT.out.1 rfl)
        go_wp2
        rw [← HP.out]
        exact ⟨below_drewN HB2.out _, i, j, r, HFO.out, HRun.out, .inl ⟨HH.out, by rw [HN.out]⟩⟩
      | false =>
        have HH : Hid (¬ Held l ⟨ek, emn, emx⟩ i j) := fun h => by cases HT.out.2 h
        clear HT
        generalize hmr : mrg l ⟨ek, emn, emx⟩ i j = mr
        have HMR := hide hmr
        clear hmr
        have hfr : w1.frozen? ⟨w.heap.size, 1, none⟩ = false ∧ w1.frozen? ⟨w.heap.size, 2, none⟩ = false := ⟨(HB1.out.frozen (by exact Nat.lt_succ_self _)).trans (by simp), (HB1.out.frozen (by exact Nat.lt_succ_self _)).trans (by simp)⟩
        obtain ⟨hf1, hf2⟩ := hfr
        go_upto_if 80 with fail
        go_cut [] (fun wc => Hid (Below w.heap.size w wc) ∧ w.heap.size < wc.heap.size ∧ wc.cell? ⟨w.heap.size, 0, none⟩ = some (.string ek) ∧ wc.cell? ⟨w.heap.size, 1, none⟩ = some (.int .i64 mr.mn) ∧ wc.cell? ⟨w.heap.size, 2, none⟩ = some (.int .i64 mr.mx))
        case first =>
          by_cases hlt : i < j
          · have hml : i < l.length := by rw [HN.out]; omega
            have hcell := (HE.out i hml).below HB2.out hb
            have hml2 : j - 1 < l.length := by rw [HN.out]; omega
            have hcell2 := (HE.out (j - 1) hml2).below HB2.out hb
            have hmr1 : mr.mn = min emn l[i].mn := by rw [← HMR.out]; simp [mrg, hlt, hml]
            have hmr2 : mr.mx = max emx l[j - 1].mx := by rw [← HMR.out]; simp [mrg, hlt, hml2]
            obtain ⟨q, rfl⟩ : ∃ q, j = q + 1 := ⟨j - 1, by omega⟩
            simp only [Nat.add_sub_cancel] at hcell2 hmr2
            generalize l[i] = y at hcell hmr1
            generalize l[q] = z at hcell2 hmr2
            obtain ⟨yk, ymn, ymx⟩ := y
            obtain ⟨zk, zmn, zmx⟩ := z
            obtain ⟨e0, e1, e2⟩ := hcell
            obtain ⟨z0, z1, z2⟩ := hcell2
            dsimp only at e0 e1 e2 z0 z1 z2 hmr1 hmr2
            simp only [Nat.zero_add] at e0 e1 e2 z0 z1 z2
            have H1 := hide hmr1
            have H2 := hide hmr2
            clear hmr1 hmr2 e0 e2 z0 z1
            have hlt' : (i : Int) < (n : Int) := by omega
            have hltq : (q : Int) < (n : Int) := by omega
            have hc1 : (i : Int) < (q : Int) + 1 := by omega
            go_wp2
            go_region
            all_goals go_wp2
            all_goals go_region
            all_goals go_wp2
            all_goals
              go_meet
              case rel =>
                exact box_goal HB2.out (by have := HB1.out.size; simp at this; omega) hx0 hx1 hx2 (by rw [H1.out]; omega) (by rw [H2.out]; omega)
          · have hmr1 : mr = ⟨ek, emn, emx⟩ := by rw [← HMR.out]; simp [mrg, hlt]
            have H1 := hide hmr1
            clear hmr1
            go_wp2
            go_meet
            case rel =>
              rw [H1.out]
              exact ⟨below_drewN HB2.out _, by have := HB1.out.size; simp at this ⊢; omega, hx0, hx1, hx2⟩
        case rest =>
          obtain ⟨HB3, hsz, x0, x1, x2⟩ := hcut
          clear hx0 hx1 hx2 hf1 hf2
          have hi0 : (0 : Int) ≤ (i : Int) := by omega
          have hin : (i : Int) ≤ (n : Int) := by omega
          have hj0 : (0 : Int) ≤ (j : Int) := by omega
          have hjn' : (j : Int) ≤ (n : Int) := by omega
          have hkk : mr.key = ek := by rw [← HMR.out]; unfold mrg; split <;> rfl
          have HCN := hide (fun a2 k2 c2 h1 h2 => addConcat wc b i j n l mr ek hkk a2 k2 c2 HN.out (HE.out.below HB3.out hb) (by omega) hn hij hjn h1 h2)
          have HS : Hid (∀ w2, Below wc.heap.size wc w2 → _) := fun w2 h => three_below h x0 x1 x2
          clear hkk
          by_cases hjn2 : n = j
          · subst hjn2
            go_upto_region 10 with fail
            go_region_held3 (fun w' => w'.cell? ⟨w.heap.size, 0, none⟩ = some (.string ek) ∧ w'.cell? ⟨w.heap.size, 1, none⟩ = some (.int .i64 mr.mn) ∧ w'.cell? ⟨w.heap.size, 2, none⟩ = some (.int .i64 mr.mx)) (go_keep)
              (first | (go_at_call 28; refine (HCN.out _ _ _ ?_ ?_).mono ?_; omega; (intro hx; omega); rintro e w2 ⟨cp, rfl, hE2, hg2, hc2, hb2⟩; obtain ⟨s0, s1, s2⟩ := HS.out w2 hb2))
            have hE3 : Ents w2 (wc.heap.size + 2) 0 (l.take i ++ [mr] ++ l.drop n) := by assumption
            have hb3 : Below wc.heap.size wc w2 := by assumption
            have hg3 : wc.heap.size + 2 < w2.heap.size := by assumption
            have hc3 : (l.take i ++ [mr] ++ l.drop n).length ≤ cp := by assumption
            have HA : Hid (addOut l ⟨ek, emn, emx⟩ i n = l.take i ++ [mr] ++ l.drop n) := by show addOut _ _ _ _ = _; unfold addOut; rw [HMR.out]
            have HFIN := hide (⟨hE3, hb3, hg3, hc3⟩ : _ ∧ _ ∧ _ ∧ _)
            clear hE3 hb3 hg3 hc3 s0 s1 s2 hE2 hb2 hg2 hc2
            go_wp2
            rw [← HP.out]
            obtain ⟨hE3, hb3, hg3, hc3⟩ := HFIN.out
            refine ⟨HB3.out.trans (hb3.mono (by omega)), i, n, r, HFO.out, HRun.out, .inr ⟨HH.out, wc.heap.size + 2, cp, ?_, ?_, by omega, hg3, ?_⟩⟩
            · rw [HA.out]; exact ret_tup (by simp)
            · rw [HA.out]; exact hE3
            · rw [HA.out]; exact hc3
          · have hjl : j < n := by omega
            go_upto_region 10 with fail
            go_region_held3 (fun w' => w'.cell? ⟨w.heap.size, 0, none⟩ = some (.string ek) ∧ w'.cell? ⟨w.heap.size, 1, none⟩ = some (.int .i64 mr.mn) ∧ w'.cell? ⟨w.heap.size, 2, none⟩ = some (.int .i64 mr.mx)) (go_keep)
              (first | (go_at_call 28; refine (HCN.out _ _ _ ?_ ?_).mono ?_; omega; (intro hx; rfl); rintro e w2 ⟨cp, rfl, hE2, hg2, hc2, hb2⟩; obtain ⟨s0, s1, s2⟩ := HS.out w2 hb2))
            have hE3 : Ents w2 (wc.heap.size + 2) 0 (l.take i ++ [mr] ++ l.drop j) := by assumption
            have hb3 : Below wc.heap.size wc w2 := by assumption
            have hg3 : wc.heap.size + 2 < w2.heap.size := by assumption
            have hc3 : (l.take i ++ [mr] ++ l.drop j).length ≤ cp := by assumption
            have HA : Hid (addOut l ⟨ek, emn, emx⟩ i j = l.take i ++ [mr] ++ l.drop j) := by show addOut _ _ _ _ = _; unfold addOut; rw [HMR.out]
            have HFIN := hide (⟨hE3, hb3, hg3, hc3⟩ : _ ∧ _ ∧ _ ∧ _)
            clear hE3 hb3 hg3 hc3 s0 s1 s2 hE2 hb2 hg2 hc2
            go_wp2
            rw [← HP.out]
            obtain ⟨hE3, hb3, hg3, hc3⟩ := HFIN.out
            refine ⟨HB3.out.trans (hb3.mono (by omega)), i, j, r, HFO.out, HRun.out, .inr ⟨HH.out, wc.heap.size + 2, cp, ?_, ?_, by omega, hg3, ?_⟩⟩
            · rw [HA.out]; exact ret_tup (by simp)
            · rw [HA.out]; exact hE3
            · rw [HA.out]; exact hc3

end Go.Proofs.Qxb6604107a
