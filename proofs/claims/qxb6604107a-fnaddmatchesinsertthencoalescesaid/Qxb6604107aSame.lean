import Derived.Test.Qxb6604107aBase
namespace Go.Proofs.Qxb6604107a
open Go.ChangeShapes Go.WideShapes Go.ChangeAt Go.RowKit
set_option linter.unusedVariables false

set_option maxHeartbeats 1000000 in
theorem same (g1 g2 c1 c2 : Nat) (l : List En) (w : World) (h1 : Ents w g1 0 l) (h2 : Ents w g2 0 l) (hn : l.length ≤ 65537) :
    Calls Try.prog 14 #[.slice (some ⟨g1, 0, none⟩) l.length c1, .slice (some ⟨g2, 0, none⟩) l.length c2] w fun e w' => e = .returned (.bool true) ∧ ∃ m, w' = w.drewN m := by
  have H1 := hide h1
  have H2 := hide h2
  clear h1 h2
  generalize hnn : l.length = n at *
  have HN := hide hnn
  clear hnn
  go_enter Try.func14, Try.ntmps14
  go_wp2
  go_loopw [5] (fun i wr => ∃ k m : Nat, k ≤ n ∧ i = .int .i64 k ∧ wr = w.drewN m) (fun i _ => n - (intOf i).toNat)
  case atStart => exact ⟨0, 0, Nat.zero_le _, rfl, rfl⟩
  case round =>
    obtain ⟨k, m, hk, rfl, rfl⟩ := hrel
    by_cases hlt : k < n
    · have hml : k < l.length := by rw [HN.out]; exact hlt
      obtain ⟨a0, a1, a2⟩ := H1.out k hml
      obtain ⟨b0, b1, b2⟩ := H2.out k hml
      generalize l[k] = y at *
      obtain ⟨yk, ymn, ymx⟩ := y
      dsimp only at a0 a1 a2 b0 b1 b2
      simp only [Nat.zero_add] at a0 a1 a2 b0 b1 b2
      have hlt' : (k : Int) < (n : Int) := by omega
      have hq : (yk.toList == yk.toList) = true := by simp
      go_wp2
      go_quiet (fail)
      go_wp2
      go_roundw
      case rel => exact ⟨k + 1, _, by omega, by go_num, rfl⟩
      case measure => simp [intOf]; omega
    · go_wp2
      go_ret
      exact ⟨rfl, _, rfl⟩

set_option maxHeartbeats 1000000 in
theorem matches_ (g : Nat) (a0 a1 a2 : Option Addr) (n c0 c1 c2 c3 : Nat) (keys : List ByteArray) (mins maxs : List Int) (w : World) (h0 : Strs w a0 n keys) (h1 : Ints w a1 n mins) (h2 : Ints w a2 n maxs) (hn : n ≤ 65537) (hE : Ents w g 0 (ents keys mins maxs)) :
    Calls Try.prog 15 #[.slice (some ⟨g, 0, none⟩) n c3, .slice a0 n c0, .slice a1 n c1, .slice a2 n c2] w fun e w' => e = .returned (.bool true) ∧ ∃ m, w' = w.drewN m := by
  obtain ⟨hl0, hm0, hc0⟩ := h0
  obtain ⟨hl1, hm1, hc1⟩ := h1
  obtain ⟨hl2, hm2, hc2⟩ := h2
  have HL0 := hide hl0
  have HL1 := hide hl1
  have HL2 := hide hl2
  have HE := hide hE
  clear hl0 hl1 hl2 hm0 hm1 hm2 hE
  go_enter Try.func15, Try.ntmps15
  go_wp2
  go_loopw [9] (fun i wr => ∃ k m : Nat, k ≤ n ∧ i = .int .i64 k ∧ wr = w.drewN m) (fun i _ => n - (intOf i).toNat)
  case atStart => exact ⟨0, 0, Nat.zero_le _, rfl, rfl⟩
  case round =>
    obtain ⟨k, m, hk, rfl, rfl⟩ := hrel
    by_cases hlt : k < n
    · obtain ⟨b0, o0, rfl, hb0, hcell0⟩ := hc0 (by omega)
      obtain ⟨b1, o1, rfl, hb1, hcell1⟩ := hc1 (by omega)
      obtain ⟨b2, o2, rfl, hb2, hcell2⟩ := hc2 (by omega)
      have k0 : k < keys.length := by rw [HL0.out]; exact hlt
      have k1 : k < mins.length := by rw [HL1.out]; exact hlt
      have k2 : k < maxs.length := by rw [HL2.out]; exact hlt
      have hml : k < (ents keys mins maxs).length := by rw [ents_length HL0.out HL1.out HL2.out]; exact hlt
      obtain ⟨e0, e1, e2⟩ := HE.out k hml
      rw [ents_get k hml k0 k1 k2] at e0 e1 e2
      have hg0 := hcell0 k k0
      have hg1 := hcell1 k k1
      have hg2 := hcell2 k k2
      dsimp only at e0 e1 e2
      simp only [Nat.zero_add] at e0 e1 e2
      generalize keys[k] = yk at *
      generalize mins[k] = ymn at *
      generalize maxs[k] = ymx at *
      clear hcell0 hcell1 hcell2 hc0 hc1 hc2
      have hlt' : (k : Int) < (n : Int) := by omega
      have hq : (yk.toList == yk.toList) = true := by simp
      go_wp2
      go_quiet (fail)
      go_wp2
      go_roundw
      case rel => exact ⟨k + 1, _, by omega, by go_num, rfl⟩
      case measure => simp [intOf]; omega
    · clear hc0 hc1 hc2
      go_wp2
      go_ret
      exact ⟨rfl, _, rfl⟩

end Go.Proofs.Qxb6604107a
