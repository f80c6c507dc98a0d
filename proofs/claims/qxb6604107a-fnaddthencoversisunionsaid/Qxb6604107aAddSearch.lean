import Derived.Test.Qxb6604107aAddCmp
import Derived.Deep.RegionHeld3
namespace Go.Proofs.Qxb6604107a
open Go.ChangeShapes Go.WideShapes Go.ChangeAt Go.RowKit
set_option linter.unusedVariables false

theorem box_cells (w : World) (a b c : Value) :
    (w.alloc (.cells #[a, b, c] 30)).cell? ⟨w.heap.size, 0, none⟩ = some a ∧ (w.alloc (.cells #[a, b, c] 30)).cell? ⟨w.heap.size, 1, none⟩ = some b ∧ (w.alloc (.cells #[a, b, c] 30)).cell? ⟨w.heap.size, 2, none⟩ = some c := by
  refine ⟨?_, ?_, ?_⟩ <;> simp

theorem six_below {w w' : World} {b o c : Nat} {k ek : ByteArray} {mn mx emn emx : Int} (h : Below w.heap.size w w')
    (e0 : w.cell? ⟨b, o, none⟩ = some (.string k)) (e1 : w.cell? ⟨b, o + 1, none⟩ = some (.int .i64 mn)) (e2 : w.cell? ⟨b, o + 2, none⟩ = some (.int .i64 mx))
    (x0 : w.cell? ⟨c, 0, none⟩ = some (.string ek)) (x1 : w.cell? ⟨c, 1, none⟩ = some (.int .i64 emn)) (x2 : w.cell? ⟨c, 2, none⟩ = some (.int .i64 emx)) :
    w'.cell? ⟨b, o, none⟩ = some (.string k) ∧ w'.cell? ⟨b, o + 1, none⟩ = some (.int .i64 mn) ∧ w'.cell? ⟨b, o + 2, none⟩ = some (.int .i64 mx) ∧
    w'.cell? ⟨c, 0, none⟩ = some (.string ek) ∧ w'.cell? ⟨c, 1, none⟩ = some (.int .i64 emn) ∧ w'.cell? ⟨c, 2, none⟩ = some (.int .i64 emx) := by
  have l := fun {a v} (e : w.cell? a = some v) => (h.cell (World.block_lt_of_cell? w a e)).trans e
  exact ⟨l e0, l e1, l e2, l x0, l x1, l x2⟩

/-- Each entry's times are int64s. -/
def Fit (l : List En) : Prop := ∀ e ∈ l, (-9223372036854775808 ≤ e.mn ∧ e.mn ≤ 9223372036854775807) ∧ (-9223372036854775808 ≤ e.mx ∧ e.mx ≤ 9223372036854775807)

set_option maxHeartbeats 2000000 in
theorem search25 (ek : ByteArray) (emn emx : Int) (b off cap : Nat) (l : List En) (w : World) (hE : Ents w b off l) (hb : b < w.heap.size) (hn : l.length ≤ 65537) (hF : Fit l) (be : -9223372036854775808 ≤ emn ∧ emn ≤ 9223372036854775807) (hM : Mono (cmpA ⟨ek, emn, emx⟩) l) :
    Calls Try.prog 25 #[.slice (some ⟨b, off, none⟩) l.length cap, .agg #[.string ek, .int .i64 emn, .int .i64 emx], .func (.func 26) #[] #[]] w fun e w' =>
      ∃ (i : Nat) (r : Bool), e = .returned (.tuple #[.int .i64 i, .bool r]) ∧ Found (cmpA ⟨ek, emn, emx⟩) l i r ∧ Below w.heap.size w w' := by
  have HE : Hid (Ents w b off l) := hE
  have HF := hide hF
  have HM : Hid (Mono (cmpA ⟨ek, emn, emx⟩) l) := hM
  have HBE := hide be
  clear hE hM hF be
  generalize hnn : l.length = n at *
  have HN : Hid (l.length = n) := hnn
  clear hnn
  generalize hcA : cmpA ⟨ek, emn, emx⟩ = cA at *
  have HCA := hide hcA
  clear hcA
  have HB0 : Hid (Below w.heap.size w (w.alloc (.cells #[.string ek, .int .i64 emn, .int .i64 emx] 30))) := (Below.refl _ _).alloc (Nat.le_refl _) _
  have HBX := hide (box_cells w (.string ek) (.int .i64 emn) (.int .i64 emx))
  go_enter Try.func25, Try.ntmps25
  go_wp2
  go_loopg [9, 10] n (fun kx s9 s10 wr => ∃ lo hi : Nat, s9 = .int .i64 lo ∧ s10 = .int .i64 hi ∧ lo ≤ hi ∧ hi ≤ n ∧ hi - lo ≤ kx ∧ Hid (Below (w.heap.size + 1) (w.alloc (.cells #[.string ek, .int .i64 emn, .int .i64 emx] 30)) wr) ∧
    Hid ((∀ q (h : q < l.length), q < lo → cA l[q] < 0) ∧ (∀ q (h : q < l.length), hi ≤ q → 0 ≤ cA l[q])))
  case atStart => exact ⟨0, n, rfl, rfl, Nat.zero_le _, Nat.le_refl _, by omega, Below.refl _ _, ⟨fun q h hq => by omega, fun q h hq => by have := HN.out; omega⟩⟩
  case round =>
    obtain ⟨lo, hi, rfl, rfl, hlh, hin, hg, HB, HI⟩ := hrel
    have hx0 : wr.cell? ⟨w.heap.size, 0, none⟩ = some (.string ek) := (HB.out.cell (by exact Nat.lt_succ_self _)).trans HBX.out.1
    have hx1 : wr.cell? ⟨w.heap.size, 1, none⟩ = some (.int .i64 emn) := (HB.out.cell (by exact Nat.lt_succ_self _)).trans HBX.out.2.1
    have hx2 : wr.cell? ⟨w.heap.size, 2, none⟩ = some (.int .i64 emx) := (HB.out.cell (by exact Nat.lt_succ_self _)).trans HBX.out.2.2
    have HB1 : Hid (Below w.heap.size w wr) := HB0.out.trans (HB.out.mono (by omega))
    by_cases hlt : lo < hi
    · have hml : (lo + hi) / 2 < l.length := by rw [HN.out]; omega
      have hcell := (HE.out ((lo + hi) / 2) hml).below HB1.out hb
      have hfit := (HF.out _ (List.getElem_mem hml)).2
      generalize hy : l[(lo + hi) / 2] = y at hcell hfit
      obtain ⟨yk, ymn, ymx⟩ := y
      have HY : Hid (l[(lo + hi) / 2] = ⟨yk, ymn, ymx⟩) := hy
      clear hy
      obtain ⟨e0, e1, e2⟩ := hcell
      dsimp only at e0 e1 e2 hfit
      have hc := fun W => add1 yk ymn ymx ek emn emx W hfit HBE.out
      rw [HCA.out] at hc
      clear hfit
      generalize hcv : cA ⟨yk, ymn, ymx⟩ = cv at hc
      have HC : Hid (cA ⟨yk, ymn, ymx⟩ = cv) := hcv
      have HH := hide hc
      clear hcv hc
      have hm2 : ((lo : Int) + (hi : Int)) / 2 < (n : Int) := by omega
      by_cases hneg : cv < 0
      · go_wp2
        go_region_with (go_at_call 26; refine (HH.out _).mono ?_; rintro e w1 ⟨rfl, hb1⟩)
        all_goals
          have hb2 : Below wr.heap.size wr w1 := (Below.refl _ _).drew.trans (by assumption)
          go_wp2
          go_roundg (hi - ((lo + hi) / 2 + 1))
          case measure => omega
          case rel =>
            refine ⟨(lo + hi) / 2 + 1, hi, by go_num, rfl, by omega, hin, Nat.le_refl _, HB.out.trans (hb2.mono (by have := HB.out.size; simp at this; omega)), ⟨fun q h hq => ?_, HI.out.2⟩⟩
            exact HM.out q ((lo + hi) / 2) (by omega) hml (by rw [HY.out, HC.out]; exact hneg)
      · go_wp2
        go_region_with (go_at_call 26; refine (HH.out _).mono ?_; rintro e w1 ⟨rfl, hb1⟩)
        all_goals
          have hb2 : Below wr.heap.size wr w1 := (Below.refl _ _).drew.trans (by assumption)
          go_wp2
          go_roundg ((lo + hi) / 2 - lo)
          case measure => omega
          case rel =>
            refine ⟨lo, (lo + hi) / 2, rfl, by go_num, by omega, by omega, Nat.le_refl _, HB.out.trans (hb2.mono (by have := HB.out.size; simp at this; omega)), ⟨HI.out.1, fun q h hq => ?_⟩⟩
            refine Int.not_lt.1 fun hlt' => ?_
            have := HM.out ((lo + hi) / 2) q hq h hlt'
            rw [HY.out, HC.out] at this
            omega
    · obtain rfl : hi = lo := by omega
      by_cases hn2 : hi < n
      · have hml : hi < l.length := by rw [HN.out]; omega
        have hcell := (HE.out hi hml).below HB1.out hb
        have hfit := (HF.out _ (List.getElem_mem hml)).2
        generalize hy : l[hi] = y at hcell hfit
        obtain ⟨yk, ymn, ymx⟩ := y
        have HY : Hid (l[hi] = ⟨yk, ymn, ymx⟩) := hy
        clear hy
        obtain ⟨e0, e1, e2⟩ := hcell
        dsimp only at e0 e1 e2 hfit
        have hc := fun W => add1 yk ymn ymx ek emn emx W hfit HBE.out
        rw [HCA.out] at hc
        clear hfit
        generalize hcv : cA ⟨yk, ymn, ymx⟩ = cv at hc
        have HC : Hid (cA ⟨yk, ymn, ymx⟩ = cv) := hcv
        have HH := hide hc
        clear hcv hc
        have hnn : (hi : Int) < (n : Int) := by omega
        have HK : Hid (∀ w1, Below wr.heap.size wr w1 → _) := fun w1 h => six_below h e0 e1 e2 hx0 hx1 hx2
        go_wp2
        go_region_held3 (fun w' => w'.cell? ⟨b, off + hi * 3, none⟩ = some (.string yk) ∧ w'.cell? ⟨b, off + hi * 3 + 1, none⟩ = some (.int .i64 ymn) ∧ w'.cell? ⟨b, off + hi * 3 + 2, none⟩ = some (.int .i64 ymx) ∧ w'.cell? ⟨w.heap.size, 0, none⟩ = some (.string ek) ∧ w'.cell? ⟨w.heap.size, 1, none⟩ = some (.int .i64 emn) ∧ w'.cell? ⟨w.heap.size, 2, none⟩ = some (.int .i64 emx)) (go_keep)
          (first | (go_at_call 26; refine (HH.out _).mono ?_; rintro e w1 ⟨rfl, hb1⟩; have hb2 : Below wr.heap.size wr w1 := Below.trans (Below.drew (Below.refl _ _)) hb1; obtain ⟨s0, s1, s2, s3, s4, s5⟩ := HK.out w1 hb2))
        have hb3 : Below wr.heap.size wr w1 := by assumption
        go_wp2
        go_ret2
        refine ⟨hi, cv == 0, rfl, ⟨by omega, HI.out.1, HI.out.2, ?_⟩, HB1.out.trans (hb3.mono HB1.out.size)⟩
        constructor
        · intro h
          exact ⟨hml, by rw [HY.out, HC.out]; simpa using h⟩
        · rintro ⟨_, h⟩
          rw [HY.out, HC.out] at h
          simp [h]
      · have hd : decide ((hi : Int) < (n : Int)) = false := by simp; omega
        go_wp2
        go_quiet (fail)
        go_wp2
        go_ret2
        refine ⟨hi, false, rfl, ⟨by have := HN.out; omega, HI.out.1, HI.out.2, ?_⟩, below_drewN HB1.out _⟩
        constructor
        · intro h; cases h
        · rintro ⟨h, _⟩
          have := HN.out
          omega

end Go.Proofs.Qxb6604107a
