import Derived.Test.Qxb6604107aCmp
namespace Go.Proofs.Qxb6604107a
open Go.ChangeShapes Go.WideShapes Go.ChangeAt Go.RowKit
set_option linter.unusedVariables false

/-- Entry a stands ahead of entry b in file order. -/
def Ahead (a b : En) : Prop := cmpB a.key b.key < 0 ∨ (cmpB a.key b.key = 0 ∧ a.mx + 1 < b.mn)

/-- The first k entries are in file order. -/
def CanonTo (l : List En) (k : Nat) : Prop := (∀ i (h : i < l.length), i < k → l[i].mn ≤ l[i].mx) ∧ (∀ i (h : i + 1 < l.length), i + 1 < k → Ahead l[i] l[i + 1])

theorem CanonTo.step {l : List En} {k : Nat} (h : CanonTo l k) (h1 : ∀ h : k < l.length, l[k].mn ≤ l[k].mx) (h2 : ∀ (q : Nat) (e : k = q + 1) (h : q + 1 < l.length), Ahead l[q] l[q + 1]) : CanonTo l (k + 1) := by
  refine ⟨fun i hi hk => ?_, fun i hi hk => ?_⟩
  · by_cases e : i < k
    · exact h.1 i hi e
    · obtain rfl : i = k := by omega
      exact h1 hi
  · by_cases e : i + 1 < k
    · exact h.2 i hi e
    · exact h2 i (by omega) hi

set_option maxHeartbeats 1000000 in
theorem canonical (a0 a1 a2 : Option Addr) (n c0 c1 c2 : Nat) (keys : List ByteArray) (mins maxs : List Int) (w : World) (h0 : Strs w a0 n keys) (h1 : Ints w a1 n mins) (h2 : Ints w a2 n maxs) (m1 : n ≤ 65536) :
    Calls Try.prog 10 #[.slice a0 n c0, .slice a1 n c1, .slice a2 n c2] w fun e w' => RB (CanonTo (ents keys mins maxs) n) e ∧ ∃ m, w' = w.drewN m := by
  obtain ⟨hl0, hm0, hc0⟩ := h0
  obtain ⟨hl1, hm1, hc1⟩ := h1
  obtain ⟨hl2, hm2, hc2⟩ := h2
  have HL0 := hide hl0
  have HL1 := hide hl1
  have HL2 := hide hl2
  have HM0 := hide hm0
  have HM1 := hide hm1
  have HM2 := hide hm2
  clear hl0 hl1 hl2 hm0 hm1 hm2
  generalize hll : ents keys mins maxs = l
  have HEN : Hid (ents keys mins maxs = l) := hll
  clear hll
  generalize hP : CanonTo l n = P
  have HP : Hid (CanonTo l n = P) := hP
  clear hP
  go_enter Try.func10, Try.ntmps10
  go_wp2
  go_loopw [7, 8] (fun i _ wr => ∃ k m : Nat, k ≤ n ∧ i = .int .i64 k ∧ wr = w.drewN m ∧ Hid (CanonTo l k)) (fun i _ _ => n - (intOf i).toNat)
  case atStart => exact ⟨0, 0, Nat.zero_le _, rfl, rfl, ⟨fun i h hk => by omega, fun i h hk => by omega⟩⟩
  case round =>
    obtain ⟨k, m, hk, rfl, rfl, HD⟩ := hrel
    by_cases hlt : k < n
    · obtain ⟨b0, o0, rfl, hb0, hcell0⟩ := hc0 (by omega)
      obtain ⟨b1, o1, rfl, hb1, hcell1⟩ := hc1 (by omega)
      obtain ⟨b2, o2, rfl, hb2, hcell2⟩ := hc2 (by omega)
      have k0 : k < keys.length := by rw [HL0.out]; exact hlt
      have k1 : k < mins.length := by rw [HL1.out]; exact hlt
      have k2 : k < maxs.length := by rw [HL2.out]; exact hlt
      have hlen : l.length = n := by rw [← HEN.out]; exact ents_length HL0.out HL1.out HL2.out
      have HLEN := hide hlen
      clear hlen
      have hg1 := hcell1 k k1
      have hg2 := hcell2 k k2
      have HK : Hid (∀ h : k < l.length, l[k] = ⟨keys[k], mins[k], maxs[k]⟩) := by
        intro h
        have e := HEN.out
        subst e
        exact ents_get k h k0 k1 k2
      have bx := bounds_i64 (HM1.out _ (List.getElem_mem k1))
      generalize mins[k] = x at hg1 HK bx
      generalize maxs[k] = y at hg2 HK
      have hlt' : (k : Int) < (n : Int) := by omega
      by_cases hxy : y < x
      · clear hcell0 hcell1 hcell2 hc0 hc1 hc2 bx
        go_wp2
        go_quiet (fail)
        go_wp2
        go_ret
        exact ⟨RB.no, dr2 ⟨_, rfl⟩ _⟩
      · by_cases h0 : k = 0
        · subst h0
          clear hcell0 hcell1 hcell2 hc0 hc1 hc2 bx
          simp only [Nat.add_zero] at hg1 hg2
          go_wp2
          go_quiet (fail)
          go_wp2
          go_roundw
          case rel => exact ⟨1, _, by omega, rfl, rfl, HD.out.step (fun h => by rw [HK.out h]; show x ≤ y; omega) (fun q e h => by omega)⟩
          case measure => simp [intOf]; omega
        · have hd0 : ((k : Int) == 0) = false := by simp; omega
          obtain ⟨q, rfl⟩ : ∃ q, k = q + 1 := ⟨k - 1, by omega⟩
          have q0 : q < keys.length := by omega
          have hqn : (q : Int) < (n : Int) := by omega
          have hwr : IntKind.i64.wrap (q : Int) = (q : Int) := by rw [IntKind.wrap_i64]; omega
          have q2 : q < maxs.length := by omega
          have hg3 := hcell2 q q2
          have hg4 := hcell0 q q0
          have hg5 := hcell0 (q + 1) k0
          have HQ : Hid (∀ h : q < l.length, l[q] = ⟨keys[q], mins[q]'(by omega), maxs[q]⟩) := by
            intro h
            have e := HEN.out
            subst e
            exact ents_get q h q0 (by omega) q2
          have bz := bounds_i64 (HM2.out _ (List.getElem_mem q2))
          have hs4 := HM0.out _ (List.getElem_mem q0)
          have hs5 := HM0.out _ (List.getElem_mem k0)
          generalize maxs[q] = z at hg3 HQ bz
          generalize mins[q]'(by omega) = z' at HQ
          generalize keys[q] = s at hg4 HQ hs4
          generalize keys[q + 1] = u at hg5 HK hs5
          have HQ0 : Hid (∀ h : q + 1 < l.length, cmpB l[q].key l[q + 1].key = cmpB s u ∧ l[q].mx = z ∧ l[q + 1].mn = x) := by
            intro h
            rw [HQ.out (by omega), HK.out h]
            exact ⟨rfl, rfl, rfl⟩
          have HS := hide (⟨hs4, hs5⟩ : s.size ≤ maxLen ∧ u.size ≤ maxLen)
          clear hcell0 hcell1 hcell2 hc0 hc1 hc2 hs4 hs5
          have hcmp := fun W => tbCmp s u W HS.out.1 HS.out.2
          generalize cmpB s u = c at hcmp HQ0
          have HC := hide hcmp
          clear hcmp
          go_wp2
          go_quiet (fail)
          go_wp2
          rcases Int.lt_trichotomy c 0 with hc | hc | hc
          · have hd1 : decide ((0 : Int) < c) = false := by simp; omega
            have hd2 : (c == 0) = false := by simp; omega
            go_quiet ((go_at_call 23; exact quiet_add (HC.out _)))
            go_wp2
            go_roundw
            case rel =>
              refine ⟨q + 2, _, by omega, by go_num, rfl, HD.out.step (fun h => by rw [HK.out h]; show x ≤ y; omega) (fun p e h => ?_)⟩
              obtain rfl : p = q := by omega
              exact .inl (by rw [(HQ0.out h).1]; exact hc)
            case measure => simp [intOf]; omega
          · subst hc
            by_cases hzx : z < x
            · have hwz : IntKind.i64.wrap (z + 1) = z + 1 := by rw [IntKind.wrap_i64]; omega
              by_cases hzx1 : z + 1 < x
              · go_quiet ((go_at_call 23; exact quiet_add (HC.out _)))
                go_wp2
                go_quiet (fail)
                go_wp2
                go_roundw
                case rel =>
                  refine ⟨q + 2, _, by omega, by go_num, rfl, HD.out.step (fun h => by rw [HK.out h]; show x ≤ y; omega) (fun p e h => ?_)⟩
                  obtain rfl : p = q := by omega
                  obtain ⟨e1, e2, e3⟩ := HQ0.out h
                  exact .inr ⟨e1, by rw [e2, e3]; exact hzx1⟩
                case measure => simp [intOf]; omega
              · have hd3 : decide (z + 1 < x) = false := by simpa using hzx1
                go_quiet ((go_at_call 23; exact quiet_add (HC.out _)))
                go_wp2
                go_quiet (fail)
                go_wp2
                go_ret
                exact ⟨RB.no, by first | exact ⟨_, rfl⟩ | exact dr2 ⟨_, rfl⟩ _⟩
            · have hd3 : decide (z < x) = false := by simpa using hzx
              go_quiet ((go_at_call 23; exact quiet_add (HC.out _)))
              go_wp2
              go_quiet (fail)
              go_wp2
              go_ret
              exact ⟨RB.no, by first | exact ⟨_, rfl⟩ | exact dr2 ⟨_, rfl⟩ _⟩
          · go_quiet ((go_at_call 23; exact quiet_add (HC.out _)))
            go_wp2
            go_ret
            exact ⟨RB.no, _, rfl⟩
    · have hall : Hid P := by rw [← HP.out]; obtain rfl : k = n := (by omega); exact HD.out
      clear hc0 hc1 hc2
      go_wp2
      go_ret
      exact ⟨RB.yes hall.out, _, rfl⟩

end Go.Proofs.Qxb6604107a
