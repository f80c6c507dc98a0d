import Derived.Test.Qxb6604107aCmp
import Derived.Test.Qxb6604107aCovers
import Derived.Test.Qxb6604107aCells
namespace Go.Proofs.Qxb6604107a
open Go.ChangeShapes Go.WideShapes Go.ChangeAt Go.RowKit
set_option linter.unusedVariables false

/-- What OfKey's comparison says. -/
def cmpK (key : ByteArray) (e : En) : Int := cmpB e.key key

theorem ofKey1 (k : ByteArray) (mn mx : Int) (key : ByteArray) (w : World) :
    Calls Try.prog 31 #[.agg #[.string k, .int .i64 mn, .int .i64 mx], .string key] w fun e' w' => e' = .returned (.int .i64 (cmpK key ⟨k, mn, mx⟩)) ∧ Below w.heap.size w w' := by
  have hb : Hid (Below w.heap.size w (w.alloc (.cells #[.string k, .int .i64 mn, .int .i64 mx] 30))) := (Below.refl _ _).alloc (Nat.le_refl _) _
  have HC := hide (fun W => compare k key W)
  have HV : Hid (cmpK key ⟨k, mn, mx⟩ = cmpB k key) := rfl
  generalize cmpK key ⟨k, mn, mx⟩ = v at HV
  generalize cmpB k key = c at HC HV
  go_enter Try.func31, Try.ntmps31
  go_wp2_with (go_at_call 27; refine (HC.out _).mono ?_; rintro e w' ⟨rfl, rfl⟩)
  go_ret
  exact ⟨ret_int HV.out.symm, hb.out⟩

set_option maxHeartbeats 1000000 in
theorem search32 (key : ByteArray) (b off cap : Nat) (l : List En) (w : World) (hE : Ents w b off l) (hb : b < w.heap.size) (hn : l.length ≤ 65537) (hM : Mono (cmpK key) l) :
    Calls Try.prog 32 #[.slice (some ⟨b, off, none⟩) l.length cap, .string key, .func (.func 31) #[] #[]] w fun e w' =>
      ∃ (i : Nat) (r : Bool), e = .returned (.tuple #[.int .i64 i, .bool r]) ∧ Found (cmpK key) l i r ∧ Below w.heap.size w w' := by
  have HE : Hid (Ents w b off l) := hE
  have HM : Hid (Mono (cmpK key) l) := hM
  clear hE hM
  generalize hnn : l.length = n at *
  have HN : Hid (l.length = n) := hnn
  clear hnn
  go_enter Try.func32, Try.ntmps32
  go_wp2
  go_loopg [9, 10] n (fun kx s9 s10 wr => ∃ lo hi : Nat, s9 = .int .i64 lo ∧ s10 = .int .i64 hi ∧ lo ≤ hi ∧ hi ≤ n ∧ hi - lo ≤ kx ∧ Below w.heap.size w wr ∧
    Hid ((∀ q (h : q < l.length), q < lo → cmpK key l[q] < 0) ∧ (∀ q (h : q < l.length), hi ≤ q → 0 ≤ cmpK key l[q])))
  case atStart => exact ⟨0, n, rfl, rfl, Nat.zero_le _, Nat.le_refl _, by omega, Below.refl _ _, ⟨fun q h hq => by omega, fun q h hq => by have := HN.out; omega⟩⟩
  case round =>
    obtain ⟨lo, hi, rfl, rfl, hlh, hin, hg, hB, HI⟩ := hrel
    by_cases hlt : lo < hi
    · have hml : (lo + hi) / 2 < l.length := by rw [HN.out]; omega
      have hcell := (HE.out ((lo + hi) / 2) hml).below hB hb
      generalize hy : l[(lo + hi) / 2] = y at hcell
      obtain ⟨yk, ymn, ymx⟩ := y
      have HY : Hid (l[(lo + hi) / 2] = ⟨yk, ymn, ymx⟩) := hy
      clear hy
      obtain ⟨e0, e1, e2⟩ := hcell
      dsimp only at e0 e1 e2
      have hc := ofKey1 yk ymn ymx key wr
      generalize hcv : cmpK key ⟨yk, ymn, ymx⟩ = cv at hc
      have HC : Hid (cmpK key ⟨yk, ymn, ymx⟩ = cv) := hcv
      have HH := hide hc
      clear hcv hc
      by_cases hneg : cv < 0
      · go_wp2_with (go_at_call 31; refine (unhide HH).mono ?_; rintro e w1 ⟨rfl, hb1⟩)
        go_roundg (hi - ((lo + hi) / 2 + 1))
        case measure => omega
        case rel =>
          refine ⟨(lo + hi) / 2 + 1, hi, by go_num, rfl, by omega, hin, Nat.le_refl _, hB.trans (hb1.mono hB.size), ⟨fun q h hq => ?_, HI.out.2⟩⟩
          exact HM.out q ((lo + hi) / 2) (by omega) hml (by rw [HY.out, HC.out]; exact hneg)
      · go_wp2_with (go_at_call 31; refine (unhide HH).mono ?_; rintro e w1 ⟨rfl, hb1⟩)
        go_roundg ((lo + hi) / 2 - lo)
        case measure => omega
        case rel =>
          refine ⟨lo, (lo + hi) / 2, rfl, by go_num, by omega, by omega, Nat.le_refl _, hB.trans (hb1.mono hB.size), ⟨HI.out.1, fun q h hq => ?_⟩⟩
          refine Int.not_lt.1 fun hlt' => ?_
          have := HM.out ((lo + hi) / 2) q hq h hlt'
          rw [HY.out, HC.out] at this
          omega
    · obtain rfl : hi = lo := by omega
      by_cases hn2 : hi < n
      · have hml : hi < l.length := by rw [HN.out]; omega
        have hcell := (HE.out hi hml).below hB hb
        generalize hy : l[hi] = y at hcell
        obtain ⟨yk, ymn, ymx⟩ := y
        have HY : Hid (l[hi] = ⟨yk, ymn, ymx⟩) := hy
        clear hy
        obtain ⟨e0, e1, e2⟩ := hcell
        dsimp only at e0 e1 e2
        have hc := ofKey1 yk ymn ymx key wr
        generalize hcv : cmpK key ⟨yk, ymn, ymx⟩ = cv at hc
        have HC : Hid (cmpK key ⟨yk, ymn, ymx⟩ = cv) := hcv
        have HH := hide hc
        clear hcv hc
        have hnn : (hi : Int) < (n : Int) := by omega
        go_wp2_with (go_at_call 31; refine (unhide HH).mono ?_; rintro e w1 ⟨rfl, hb1⟩)
        go_ret2
        refine ⟨hi, cv == 0, rfl, ⟨by omega, HI.out.1, HI.out.2, ?_⟩, hB.trans (hb1.mono hB.size)⟩
        constructor
        · intro h
          exact ⟨hml, by rw [HY.out, HC.out]; simpa using h⟩
        · rintro ⟨_, h⟩
          rw [HY.out, HC.out] at h
          simp [h]
      · go_wp2
        go_ret2
        refine ⟨hi, false, rfl, ⟨by have := HN.out; omega, HI.out.1, HI.out.2, ?_⟩, hB⟩
        constructor
        · intro h; cases h
        · rintro ⟨h, _⟩
          have := HN.out
          omega


end Go.Proofs.Qxb6604107a
