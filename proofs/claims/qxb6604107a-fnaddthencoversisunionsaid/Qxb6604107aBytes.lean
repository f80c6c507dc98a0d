import Derived.Test.Qxb6604107aBase
namespace Go.Proofs.Qxb6604107a
open Go.ChangeShapes Go.WideShapes Go.ChangeAt Go.RowKit
set_option linter.unusedVariables false

set_option maxHeartbeats 400000 in
theorem bytes19 (a0 a1 a2 : Option Addr) (n0 n1 n2 c0 c1 c2 : Nat) (t : Int) (ss : List ByteArray) (w : World) (h0 : Strs w a0 n0 ss) (m0 : n0 ≤ maxLen) (m1 : n1 ≤ maxLen) (m2 : n2 ≤ maxLen) :
    Calls Try.prog 19 #[.slice a0 n0 c0, .slice a1 n1 c1, .slice a2 n2 c2, .int .i64 t] w fun e w' => RB (Short ss) e ∧ w' = w := by
  obtain ⟨hl, hm, hc⟩ := h0
  unfold maxLen at *
  have HL : Hid (ss.length = n0) := hl
  have HM : Hid (∀ s ∈ ss, s.size ≤ 9223372036854775807) := hm
  clear hl hm
  go_enter Try.func19, Try.ntmps19
  go_wp2
  · go_ret
    exact ⟨RB.no, rfl⟩
  · go_loop [9, 10] (fun z i => ∃ (k : Nat) (q : Int), k ≤ n0 ∧ i = .int .i64 k ∧ z = .int .i64 q ∧ 0 ≤ q ∧ q ≤ 1048576 ∧ Hid (∀ j (h : j < ss.length), j < k → ss[j].size ≤ 1048576)) (fun _ i => n0 - (intOf i).toNat)
    case atStart => exact ⟨0, n0, Nat.zero_le _, rfl, rfl, by omega, by omega, fun j h hj => by omega⟩
    case round =>
      obtain ⟨k, q, hk, rfl, rfl, hq0, hq1, HS⟩ := hrel
      by_cases hlt : k < n0
      · obtain ⟨b, off, rfl, hb, hcell⟩ := hc (by omega)
        have hk' : k < ss.length := by rw [HL.out]; exact hlt
        have hg := hcell k hk'
        have hsz : ss[k].size ≤ 9223372036854775807 := HM.out _ (List.getElem_mem hk')
        generalize hs : ss[k] = s at hg hsz
        have HE : Hid (ss[k] = s) := hs
        clear hs hcell
        go_wp2
        · go_ret
          exact ⟨RB.no, rfl⟩
        · go_ret
          exact ⟨RB.no, rfl⟩
        · go_round
          case rel =>
            refine ⟨k + 1, q + s.size, by omega, by go_num, rfl, by omega, by assumption, fun j h hj => ?_⟩
            by_cases hjk : j < k
            · exact HS.out j h hjk
            · obtain rfl : j = k := by omega
              rw [HE.out]; omega
          case measure => simp [intOf]; omega
      · have hall : Hid (Short ss) := fun i h => HS.out i h (by have := HL.out; omega)
        clear HS
        go_wp2
        all_goals go_ret
        all_goals first | exact ⟨RB.no, rfl⟩ | exact ⟨RB.yes hall.out, rfl⟩

set_option maxHeartbeats 400000 in
theorem bytes7 (a0 a1 a2 : Option Addr) (n0 n1 n2 c0 c1 c2 : Nat) (eKey : ByteArray) (eMin eMax : Int) (ss : List ByteArray) (w : World) (h0 : Strs w a0 n0 ss) (m0 : n0 ≤ maxLen) (m1 : n1 ≤ maxLen) (m2 : n2 ≤ maxLen) (me : eKey.size ≤ maxLen) :
    Calls Try.prog 7 #[.slice a0 n0 c0, .slice a1 n1 c1, .slice a2 n2 c2, .string eKey, .int .i64 eMin, .int .i64 eMax] w fun e w' => RB (Short ss) e ∧ w' = w := by
  obtain ⟨hl, hm, hc⟩ := h0
  unfold maxLen at *
  have HL : Hid (ss.length = n0) := hl
  have HM : Hid (∀ s ∈ ss, s.size ≤ 9223372036854775807) := hm
  clear hl hm
  go_enter Try.func7, Try.ntmps7
  go_wp2
  · go_ret
    exact ⟨RB.no, rfl⟩
  · go_loop [13, 14] (fun z i => ∃ (k : Nat) (q : Int), k ≤ n0 ∧ i = .int .i64 k ∧ z = .int .i64 q ∧ 0 ≤ q ∧ q ≤ 1048576 ∧ Hid (∀ j (h : j < ss.length), j < k → ss[j].size ≤ 1048576)) (fun _ i => n0 - (intOf i).toNat)
    case atStart => exact ⟨0, n0, Nat.zero_le _, rfl, rfl, by omega, by omega, fun j h hj => by omega⟩
    case round =>
      obtain ⟨k, q, hk, rfl, rfl, hq0, hq1, HS⟩ := hrel
      by_cases hlt : k < n0
      · obtain ⟨b, off, rfl, hb, hcell⟩ := hc (by omega)
        have hk' : k < ss.length := by rw [HL.out]; exact hlt
        have hg := hcell k hk'
        have hsz : ss[k].size ≤ 9223372036854775807 := HM.out _ (List.getElem_mem hk')
        generalize hs : ss[k] = s at hg hsz
        have HE : Hid (ss[k] = s) := hs
        clear hs hcell
        go_wp2
        · go_ret
          exact ⟨RB.no, rfl⟩
        · go_ret
          exact ⟨RB.no, rfl⟩
        · go_round
          case rel =>
            refine ⟨k + 1, q + s.size, by omega, by go_num, rfl, by omega, by assumption, fun j h hj => ?_⟩
            by_cases hjk : j < k
            · exact HS.out j h hjk
            · obtain rfl : j = k := by omega
              rw [HE.out]; omega
          case measure => simp [intOf]; omega
      · have hall : Hid (Short ss) := fun i h => HS.out i h (by have := HL.out; omega)
        clear HS
        go_wp2
        all_goals go_ret
        all_goals first | exact ⟨RB.no, rfl⟩ | exact ⟨RB.yes hall.out, rfl⟩

set_option maxHeartbeats 400000 in
theorem bytes16 (a0 a1 a2 : Option Addr) (n0 n1 n2 c0 c1 c2 : Nat) (eKey : ByteArray) (eMin eMax : Int) (key : ByteArray) (t : Int) (ss : List ByteArray) (w : World) (h0 : Strs w a0 n0 ss) (m0 : n0 ≤ maxLen) (m1 : n1 ≤ maxLen) (m2 : n2 ≤ maxLen) (me : eKey.size ≤ maxLen) (mk : key.size ≤ maxLen) :
    Calls Try.prog 16 #[.slice a0 n0 c0, .slice a1 n1 c1, .slice a2 n2 c2, .string eKey, .int .i64 eMin, .int .i64 eMax, .string key, .int .i64 t] w fun e w' => RB (Short ss) e ∧ w' = w := by
  obtain ⟨hl, hm, hc⟩ := h0
  unfold maxLen at *
  have HL : Hid (ss.length = n0) := hl
  have HM : Hid (∀ s ∈ ss, s.size ≤ 9223372036854775807) := hm
  clear hl hm
  go_enter Try.func16, Try.ntmps16
  go_wp2
  · go_ret
    exact ⟨RB.no, rfl⟩
  · go_loop [17, 18] (fun z i => ∃ (k : Nat) (q : Int), k ≤ n0 ∧ i = .int .i64 k ∧ z = .int .i64 q ∧ 0 ≤ q ∧ q ≤ 1048576 ∧ Hid (∀ j (h : j < ss.length), j < k → ss[j].size ≤ 1048576)) (fun _ i => n0 - (intOf i).toNat)
    case atStart => exact ⟨0, n0, Nat.zero_le _, rfl, rfl, by omega, by omega, fun j h hj => by omega⟩
    case round =>
      obtain ⟨k, q, hk, rfl, rfl, hq0, hq1, HS⟩ := hrel
      by_cases hlt : k < n0
      · obtain ⟨b, off, rfl, hb, hcell⟩ := hc (by omega)
        have hk' : k < ss.length := by rw [HL.out]; exact hlt
        have hg := hcell k hk'
        have hsz : ss[k].size ≤ 9223372036854775807 := HM.out _ (List.getElem_mem hk')
        generalize hs : ss[k] = s at hg hsz
        have HE : Hid (ss[k] = s) := hs
        clear hs hcell
        go_wp2
        · go_ret
          exact ⟨RB.no, rfl⟩
        · go_ret
          exact ⟨RB.no, rfl⟩
        · go_round
          case rel =>
            refine ⟨k + 1, q + s.size, by omega, by go_num, rfl, by omega, by assumption, fun j h hj => ?_⟩
            by_cases hjk : j < k
            · exact HS.out j h hjk
            · obtain rfl : j = k := by omega
              rw [HE.out]; omega
          case measure => simp [intOf]; omega
      · have hall : Hid (Short ss) := fun i h => HS.out i h (by have := HL.out; omega)
        clear HS
        go_wp2
        all_goals go_ret
        all_goals first | exact ⟨RB.no, rfl⟩ | exact ⟨RB.yes hall.out, rfl⟩

end Go.Proofs.Qxb6604107a
