import Derived.Test.Qxb6604107aBase
namespace Go.Proofs.Qxb6604107a
open Go.ChangeShapes Go.WideShapes Go.ChangeAt Go.RowKit
set_option linter.unusedVariables false

set_option maxHeartbeats 400000 in
theorem tooBig (a0 a1 a2 : Option Addr) (n0 n1 n2 c0 c1 c2 : Nat) (xa xb : Int) (ss : List ByteArray) (w : World) (h0 : Strs w a0 n0 ss) (hS : Short ss) (m0 : n0 ≤ maxLen) (m1 : n1 ≤ maxLen) (m2 : n2 ≤ maxLen) (p1 : 0 ≤ xa) (q1 : xa ≤ maxLen) (p2 : 0 ≤ xb) (q2 : xb ≤ maxLen) :
    Calls Try.prog 8 #[.slice a0 n0 c0, .slice a1 n1 c1, .slice a2 n2 c2, .int .i64 xa, .int .i64 xb] w fun e w' => RF (n0 ≤ 65536 ∧ n1 ≤ 65536 ∧ n2 ≤ 65536 ∧ xa ≤ 1048576 ∧ xb ≤ 1048576) e ∧ w' = w := by
  obtain ⟨hl, hm, hc⟩ := h0
  have HS : Hid (Short ss) := hS
  have HL : Hid (ss.length = n0) := hl
  unfold maxLen at *
  clear hl hm hS
  generalize hP : (n0 ≤ 65536 ∧ n1 ≤ 65536 ∧ n2 ≤ 65536 ∧ xa ≤ 1048576 ∧ xb ≤ 1048576) = P
  have HP : Hid ((n0 ≤ 65536 ∧ n1 ≤ 65536 ∧ n2 ≤ 65536 ∧ xa ≤ 1048576 ∧ xb ≤ 1048576) = P) := hP
  clear hP
  by_cases g0 : n0 ≤ 65536
  · by_cases g1 : n1 ≤ 65536
    · by_cases g2 : n2 ≤ 65536
      · by_cases g3 : xa ≤ 1048576
        · by_cases g4 : xb ≤ 1048576
          · have hp : Hid P := by rw [← HP.out]; exact ⟨g0, g1, g2, g3, g4⟩
            go_enter Try.func8, Try.ntmps8
            go_wp2
            go_loop [11, 12] (fun z i => ∃ (k : Nat) (q : Int), k ≤ n0 ∧ i = .int .i64 k ∧ z = .int .i64 q ∧ 0 ≤ q ∧ q ≤ 8388608) (fun _ i => n0 - (intOf i).toNat)
            case atStart => exact ⟨0, _, Nat.zero_le _, rfl, rfl, by omega, by omega⟩
            case round =>
              obtain ⟨k, q, hk, rfl, rfl, hq0, hq1⟩ := hrel
              by_cases hlt : k < n0
              · obtain ⟨b, off, rfl, hb, hcell⟩ := hc (by omega)
                have hk' : k < ss.length := by rw [HL.out]; exact hlt
                have hg := hcell k hk'
                have hsz : ss[k].size ≤ 1048576 := HS.out k hk'
                generalize hs : ss[k] = s at hg hsz
                clear hs hcell
                go_wp2
                · go_ret
                  exact ⟨RF.no, rfl⟩
                · go_round
                  case rel => exact ⟨k + 1, q + s.size, by omega, by go_num, rfl, by omega, by omega⟩
                  case measure => simp [intOf]; omega
              · go_wp2
                go_ret
                exact ⟨RF.mk _ hp.out, rfl⟩
          · go_enter Try.func8, Try.ntmps8
            go_wp2
            go_ret
            exact ⟨RF.no, rfl⟩
        · go_enter Try.func8, Try.ntmps8
          go_wp2
          go_ret
          exact ⟨RF.no, rfl⟩
      · go_enter Try.func8, Try.ntmps8
        go_wp2
        go_ret
        exact ⟨RF.no, rfl⟩
    · go_enter Try.func8, Try.ntmps8
      go_wp2
      go_ret
      exact ⟨RF.no, rfl⟩
  · go_enter Try.func8, Try.ntmps8
    go_wp2
    go_ret
    exact ⟨RF.no, rfl⟩

theorem sameLen (a0 a1 a2 : Option Addr) (n0 n1 n2 c0 c1 c2 : Nat) (w : World) :
    Calls Try.prog 9 #[.slice a0 n0 c0, .slice a1 n1 c1, .slice a2 n2 c2] w fun e w' => RB (n0 = n1 ∧ n1 = n2) e ∧ w' = w := by
  generalize hP : (n0 = n1 ∧ n1 = n2) = P
  have HP : Hid ((n0 = n1 ∧ n1 = n2) = P) := hP
  clear hP
  by_cases g0 : n0 = n1
  · by_cases g1 : n1 = n2
    · have hp : Hid P := by rw [← HP.out]; exact ⟨g0, g1⟩
      clear HP
      subst g0 g1
      go_enter Try.func9, Try.ntmps9
      go_wp2
      go_ret
      exact ⟨RB.yes hp.out, rfl⟩
    · have e0 : ((n0 : Int) == n1) = true := by simp; omega
      have e1 : ((n1 : Int) == n2) = false := by simp; omega
      clear g0 g1
      go_enter Try.func9, Try.ntmps9
      go_wp2
      go_ret
      exact ⟨RB.no, rfl⟩
  · have e0 : ((n0 : Int) == n1) = false := by simp; omega
    clear g0
    go_enter Try.func9, Try.ntmps9
    go_wp2
    go_ret
    exact ⟨RB.no, rfl⟩

end Go.Proofs.Qxb6604107a
