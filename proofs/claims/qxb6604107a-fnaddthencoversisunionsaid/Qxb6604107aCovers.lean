import Derived.Test.Qxb6604107aBase
import Derived.Deep.LoopGhost
namespace Go.Proofs.Qxb6604107a
open Go.ChangeShapes Go.WideShapes Go.ChangeAt Go.RowKit
set_option linter.unusedVariables false

/-- What Covers' comparison says. -/
def cmpT (t : Int) (e : En) : Int := if e.mx < t then -1 else if t < e.mn then 1 else 0

theorem covers1 (key : ByteArray) (mn mx t : Int) (w : World) :
    Calls Try.prog 30 #[.agg #[.string key, .int .i64 mn, .int .i64 mx], .int .i64 t] w fun e' w' => e' = .returned (.int .i64 (cmpT t ⟨key, mn, mx⟩)) ∧ Below w.heap.size w w' := by
  have hb : Hid (Below w.heap.size w (w.alloc (.cells #[.string key, .int .i64 mn, .int .i64 mx] 30))) := (Below.refl _ _).alloc (Nat.le_refl _) _
  by_cases h1 : mx < t
  · have e1 : Hid (cmpT t ⟨key, mn, mx⟩ = -1) := by show cmpT _ _ = _; simp [cmpT, h1]
    go_enter Try.func30, Try.ntmps30
    go_wp2
    go_ret
    exact ⟨ret_int e1.out.symm, hb.out⟩
  · by_cases h2 : t < mn
    · have e1 : Hid (cmpT t ⟨key, mn, mx⟩ = 1) := by show cmpT _ _ = _; simp [cmpT, h1, h2]
      go_enter Try.func30, Try.ntmps30
      go_wp2
      go_ret
      exact ⟨ret_int e1.out.symm, hb.out⟩
    · have e1 : Hid (cmpT t ⟨key, mn, mx⟩ = 0) := by show cmpT _ _ = _; simp [cmpT, h1, h2]
      go_enter Try.func30, Try.ntmps30
      go_wp2
      go_ret
      exact ⟨ret_int e1.out.symm, hb.out⟩

/-- Where a binary search ends: i entries precede; the others do not; whether entry i is hit. -/
structure Found (c : En → Int) (l : List En) (i : Nat) (r : Bool) : Prop where
  le : i ≤ l.length
  lo : ∀ t (h : t < l.length), t < i → c l[t] < 0
  hi : ∀ t (h : t < l.length), i ≤ t → 0 ≤ c l[t]
  hit : r = true ↔ ∃ h : i < l.length, c l[i] = 0

/-- What precedes the target stands ahead of what does not. -/
def Mono (c : En → Int) (l : List En) : Prop := ∀ i j (h : i ≤ j) (hj : j < l.length), c l[j] < 0 → c (l[i]'(by omega)) < 0

set_option maxHeartbeats 1000000 in
theorem search29 (t : Int) (b off cap : Nat) (l : List En) (w : World) (hE : Ents w b off l) (hb : b < w.heap.size) (hn : l.length ≤ 65537) (hM : Mono (cmpT t) l) :
    Calls Try.prog 29 #[.slice (some ⟨b, off, none⟩) l.length cap, .int .i64 t, .func (.func 30) #[] #[]] w fun e w' =>
      ∃ (i : Nat) (r : Bool), e = .returned (.tuple #[.int .i64 i, .bool r]) ∧ Found (cmpT t) l i r ∧ Below w.heap.size w w' := by
  have HE : Hid (Ents w b off l) := hE
  have HM : Hid (Mono (cmpT t) l) := hM
  clear hE hM
  generalize hnn : l.length = n at *
  have HN : Hid (l.length = n) := hnn
  clear hnn
  go_enter Try.func29, Try.ntmps29
  go_wp2
  go_loopg [9, 10] n (fun kx s9 s10 wr => ∃ lo hi : Nat, s9 = .int .i64 lo ∧ s10 = .int .i64 hi ∧ lo ≤ hi ∧ hi ≤ n ∧ hi - lo ≤ kx ∧ Below w.heap.size w wr ∧
    Hid ((∀ q (h : q < l.length), q < lo → cmpT t l[q] < 0) ∧ (∀ q (h : q < l.length), hi ≤ q → 0 ≤ cmpT t l[q])))
  case atStart => exact ⟨0, n, rfl, rfl, Nat.zero_le _, Nat.le_refl _, by omega, Below.refl _ _, ⟨fun q h hq => by omega, fun q h hq => by have := HN.out; omega⟩⟩
  case round =>
    obtain ⟨lo, hi, rfl, rfl, hlh, hin, hg, hB, HI⟩ := hrel
    by_cases hlt : lo < hi
    · have hml : (lo + hi) / 2 < l.length := by rw [HN.out]; omega
      have hcell := (HE.out ((lo + hi) / 2) hml).below hB hb
      generalize hy : l[(lo + hi) / 2] = y at hcell
      obtain ⟨yk, ymn, ymx⟩ := y
      have HY : Hid (l[(lo + hi) / 2] = ⟨yk, ymn, ymx⟩) := hy
      clear hy
      obtain ⟨e0, e1, e2⟩ := hcell
      dsimp only at e0 e1 e2
      have hc := covers1 yk ymn ymx t wr
      generalize hcv : cmpT t ⟨yk, ymn, ymx⟩ = cv at hc
      have HC : Hid (cmpT t ⟨yk, ymn, ymx⟩ = cv) := hcv
      have HH := hide hc
      clear hcv hc
      by_cases hneg : cv < 0
      · go_wp2_with (go_at_call 30; refine (unhide HH).mono ?_; rintro e w1 ⟨rfl, hb1⟩)
        go_roundg (hi - ((lo + hi) / 2 + 1))
        case measure => omega
        case rel =>
          refine ⟨(lo + hi) / 2 + 1, hi, by go_num, rfl, by omega, hin, Nat.le_refl _, hB.trans (hb1.mono hB.size), ⟨fun q h hq => ?_, HI.out.2⟩⟩
          exact HM.out q ((lo + hi) / 2) (by omega) hml (by rw [HY.out, HC.out]; exact hneg)
      · go_wp2_with (go_at_call 30; refine (unhide HH).mono ?_; rintro e w1 ⟨rfl, hb1⟩)
        go_roundg ((lo + hi) / 2 - lo)
        case measure => omega
        case rel =>
          refine ⟨lo, (lo + hi) / 2, rfl, by go_num, by omega, by omega, Nat.le_refl _, hB.trans (hb1.mono hB.size), ⟨HI.out.1, fun q h hq => ?_⟩⟩
          refine Int.not_lt.1 fun hlt' => ?_
          have := HM.out ((lo + hi) / 2) q hq h hlt'
          rw [HY.out, HC.out] at this
          omega
    · obtain rfl : hi = lo := by omega
      by_cases hn2 : hi < n
      · have hml : hi < l.length := by rw [HN.out]; omega
        have hcell := (HE.out hi hml).below hB hb
        generalize hy : l[hi] = y at hcell
        obtain ⟨yk, ymn, ymx⟩ := y
        have HY : Hid (l[hi] = ⟨yk, ymn, ymx⟩) := hy
        clear hy
        obtain ⟨e0, e1, e2⟩ := hcell
        dsimp only at e0 e1 e2
        have hc := covers1 yk ymn ymx t wr
        generalize hcv : cmpT t ⟨yk, ymn, ymx⟩ = cv at hc
        have HC : Hid (cmpT t ⟨yk, ymn, ymx⟩ = cv) := hcv
        have HH := hide hc
        clear hcv hc
        have hnn : (hi : Int) < (n : Int) := by omega
        go_wp2_with (go_at_call 30; refine (unhide HH).mono ?_; rintro e w1 ⟨rfl, hb1⟩)
        go_ret2
        refine ⟨hi, cv == 0, rfl, ⟨by omega, HI.out.1, HI.out.2, ?_⟩, hB.trans (hb1.mono hB.size)⟩
        constructor
        · intro h
          exact ⟨hml, by rw [HY.out, HC.out]; simpa using h⟩
        · rintro ⟨_, h⟩
          rw [HY.out, HC.out] at h
          simp [h]
      · go_wp2
        go_ret2
        refine ⟨hi, false, rfl, ⟨by have := HN.out; omega, HI.out.1, HI.out.2, ?_⟩, hB⟩
        constructor
        · intro h; cases h
        · rintro ⟨h, _⟩
          have := HN.out
          omega

theorem covers (t : Int) (b off cap : Nat) (l : List En) (w : World) (hE : Ents w b off l) (hb : b < w.heap.size) (hn : l.length ≤ 65537) (hM : Mono (cmpT t) l) :
    Calls Try.prog 17 #[.slice (some ⟨b, off, none⟩) l.length cap, .int .i64 t] w fun e w' =>
      ∃ (i : Nat) (r : Bool), e = .returned (.bool r) ∧ Found (cmpT t) l i r ∧ Below w.heap.size w w' := by
  have HC := hide (search29 t b off cap l w hE hb hn hM)
  clear hE hn hM
  go_enter Try.func17, Try.ntmps17
  go_wp2_with (go_at_call 29; refine (unhide HC).mono ?_; rintro e w1 ⟨i, r, rfl, hf, hb1⟩)
  go_ret
  exact ⟨i, r, rfl, hf, hb1⟩

end Go.Proofs.Qxb6604107a
