import Derived.Test.Qxb6604107aBase
namespace Go.Proofs.Qxb6604107a
open Go.ChangeShapes Go.WideShapes Go.ChangeAt Go.RowKit
set_option linter.unusedVariables false

/-- Each range is well formed, and lies wholly after the one before it. -/
def Disj (mins maxs : List Int) (k : Nat) : Prop := ∀ i, i < k → mins.getD i 0 ≤ maxs.getD i 0 ∧ (0 < i → maxs.getD (i - 1) 0 < mins.getD i 0)

theorem Disj.step {mins maxs : List Int} {k : Nat} (h : Disj mins maxs k) (h1 : mins.getD k 0 ≤ maxs.getD k 0) (h2 : 0 < k → maxs.getD (k - 1) 0 < mins.getD k 0) : Disj mins maxs (k + 1) := by
  intro i hi
  by_cases e : i < k
  · exact h i e
  · obtain rfl : i = k := by omega
    exact ⟨h1, h2⟩

theorem dr2 {w a : World} (h : ∃ m, a = w.drewN m) (q : Nat) : ∃ m, a.drewN q = w.drewN m := by
  obtain ⟨m, rfl⟩ := h
  exact ⟨m + q, by simp⟩

theorem getD_of {l : List Int} {i : Nat} (h : i < l.length) : l.getD i 0 = l[i] := by simp [List.getD, h]

set_option maxHeartbeats 800000 in
theorem timesDisjoint (a1 a2 : Option Addr) (n c1 c2 : Nat) (mins maxs : List Int) (w : World) (h1 : Ints w a1 n mins) (h2 : Ints w a2 n maxs) (m1 : n ≤ maxLen) :
    Calls Try.prog 20 #[.slice a1 n c1, .slice a2 n c2] w fun e w' => RB (Disj mins maxs n) e ∧ ∃ m, w' = w.drewN m := by
  obtain ⟨hl1, hm1, hc1⟩ := h1
  obtain ⟨hl2, hm2, hc2⟩ := h2
  unfold maxLen at m1
  have HL1 : Hid (mins.length = n) := hl1
  have HL2 : Hid (maxs.length = n) := hl2
  clear hl1 hl2 hm1 hm2
  generalize hP : Disj mins maxs n = P
  have HP : Hid (Disj mins maxs n = P) := hP
  clear hP
  go_enter Try.func20, Try.ntmps20
  go_wp2
  go_loopw [5] (fun i wr => ∃ k m : Nat, k ≤ n ∧ i = .int .i64 k ∧ wr = w.drewN m ∧ Hid (Disj mins maxs k)) (fun i _ => n - (intOf i).toNat)
  case atStart => exact ⟨0, 0, Nat.zero_le _, rfl, rfl, fun i h => by omega⟩
  case round =>
    obtain ⟨k, m, hk, rfl, rfl, HD⟩ := hrel
    by_cases hlt : k < n
    · obtain ⟨b1, off1, rfl, hb1, hcell1⟩ := hc1 (by omega)
      obtain ⟨b2, off2, rfl, hb2, hcell2⟩ := hc2 (by omega)
      have k1 : k < mins.length := by rw [HL1.out]; exact hlt
      have k2 : k < maxs.length := by rw [HL2.out]; exact hlt
      have hg1 := hcell1 k k1
      have hg2 := hcell2 k k2
      generalize hs1 : mins[k] = x at hg1
      have HX : Hid (mins.getD k 0 = x) := by rw [← hs1]; exact getD_of k1
      generalize hs2 : maxs[k] = y at hg2
      have HY : Hid (maxs.getD k 0 = y) := by rw [← hs2]; exact getD_of k2
      clear hs1 hs2
      have hlt' : (k : Int) < (n : Int) := by omega
      by_cases hxy : y < x
      · clear hcell1 hcell2 hc1 hc2
        go_wp2
        go_quiet (fail)
        go_wp2
        go_ret
        exact ⟨RB.no, dr2 ⟨_, rfl⟩ _⟩
      · by_cases h0 : k = 0
        · subst h0
          clear hcell1 hcell2 hc1 hc2
          simp only [Nat.add_zero] at hg1 hg2
          go_wp2
          go_quiet (fail)
          go_wp2
          go_quiet (fail)
          go_wp2
          go_roundw
          case rel => exact ⟨1, _, by omega, rfl, rfl, HD.out.step (by rw [HX.out, HY.out]; omega) (by omega)⟩
          case measure => simp [intOf]; omega
        · have hk0 : (0 : Int) < (k : Int) := by omega
          have hd0 : decide ((0 : Int) < (k : Int)) = true := by simp; omega
          obtain ⟨q, rfl⟩ : ∃ q, k = q + 1 := ⟨k - 1, by omega⟩
          have hg3 := hcell2 q (by omega)
          generalize hs3 : maxs[q] = z at hg3
          have HZ : Hid (maxs.getD q 0 = z) := by rw [← hs3]; exact getD_of (by omega)
          clear hs3 hcell1 hcell2 hc1 hc2
          by_cases hzx : z < x
          · go_wp2
            go_quiet (fail)
            go_wp2
            go_quiet (fail)
            go_wp2
            go_roundw
            case rel => exact ⟨q + 2, _, by omega, by go_num, rfl, HD.out.step (by rw [HX.out, HY.out]; omega) (fun _ => by rw [HX.out]; show maxs.getD q 0 < x; rw [HZ.out]; exact hzx)⟩
            case measure => simp [intOf]; omega
          · have hdz : decide (z < x) = false := by simpa using hzx
            go_wp2
            go_quiet (fail)
            go_wp2
            go_quiet (fail)
            go_wp2
            go_ret
            exact ⟨RB.no, dr2 (dr2 ⟨_, rfl⟩ _) _⟩
    · have hall : Hid P := by rw [← HP.out]; obtain rfl : k = n := (by omega); exact HD.out
      clear hc1 hc2
      go_wp2
      go_ret
      exact ⟨RB.yes hall.out, _, rfl⟩

end Go.Proofs.Qxb6604107a
