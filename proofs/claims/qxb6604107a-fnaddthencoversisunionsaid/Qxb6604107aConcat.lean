import Derived.Test.Qxb6604107aCells
import Derived.Test.Qxb6604107aBuild
import Derived.Lib.AppendZeros
import Derived.Lib.AppendZerosOnto
namespace Go.Proofs.Qxb6604107a
open Go.ChangeShapes Go.WideShapes Go.ChangeAt Go.RowKit
set_option linter.unusedVariables false

set_option maxHeartbeats 1000000 in
/-- slices.Grow of the nil slice. -/
theorem grow (n : Nat) (w : World) (h0 : 0 < n) (hn : n ≤ 131072) :
    Calls Try.prog 34 #[.slice none 0 0, .int .i64 n] w fun e w' => ∃ cap, e = .returned (.slice (some ⟨w.heap.size, 0, none⟩) 0 cap) ∧ n ≤ cap ∧ w'.ownsRow w.heap.size 30 3 (.slice (some ⟨w.heap.size, 0, none⟩) 0 cap) 0 [] ∧ Below w.heap.size w w' := by
  obtain ⟨i0, hi, hz0, hz1, hz2⟩ := info_parts Try.info30
  have hold : (Builtin.firstCells i0.size 0 (.slice none 0 0)).run Try.prog w.drew = .ok ([] : List Value).toArray w.drew := run_firstCells_none w.drew i0.size 0 0 0
  have hrz := fun ty => Lib.run_append_grow_zeros (P := Try.prog) w 27 3 ty 30 i0 (.agg #[.string ByteArray.empty, .int .i64 0, .int .i64 0]) .i64 .i64 Try.underlying27 Try.underlying3 hi hz0 none 0 0 [] hold n (by omega) (by omega) (by omega) (by omega) (by rw [hz2]; omega)
      (by rw [hz2]; exact growslice_fits (by omega) (by omega))
  simp only [Nat.zero_add] at hrz
  have hG := grownCap_ge w n 0 30
  have hG2 := grownCap_le_maxLen w n 0 30 (by unfold maxLen; omega)
  generalize grownCap w n 0 30 = G at hrz hG hG2
  generalize hX : ([] : List Value).toArray ++ Builtin.zeroCells (Value.agg #[.string ByteArray.empty, .int .i64 0, .int .i64 0]).cells n ++ Builtin.zeroCells (Value.agg #[.string ByteArray.empty, .int .i64 0, .int .i64 0]).cells (G - n) = X at hrz
  have hXs : X.size = G * 3 := by
    rw [← hX]
    simp [Builtin.zeroCells, Value.cells]
    omega
  clear hX hold
  have HR := hide hrz
  have hown : (w.drew.alloc (.cells X 30)).ownsRow w.heap.size 30 3 (.slice (some ⟨w.heap.size, 0, none⟩) 0 G) 0 [] := World.ownsRow_made w.drew X G (Nat.le_refl _) hG2 hXs
  have HO := hide hown
  have HB : Hid (Below w.heap.size w (w.drew.alloc (.cells X 30))) := (Below.refl _ _).drew.alloc (Nat.le_refl _) _
  clear hrz hown
  unfold maxLen at hG2
  go_enter Try.func34, Try.ntmps34
  go_wp2_with (at_builtin; refine Lib.wpList_append_run _ rfl _ _ _ _ rfl _ _ rfl rfl _ _ (HR.out _) ?_)
  all_goals
    go_ret
    exact ⟨G, rfl, hG, HO.out, HB.out⟩

/-! ### slices.Concat of three -/
def totL (L : Nat → List En) : Nat → Nat
  | 0 => 0
  | k + 1 => totL L k + (L k).length
def catL (L : Nat → List En) : Nat → List En
  | 0 => []
  | k + 1 => catL L k ++ L k
theorem catL_length (L : Nat → List En) (k : Nat) : (catL L k).length = totL L k := by
  induction k with
  | zero => rfl
  | succ k ih => simp [catL, totL, ih]
theorem totL_le (L : Nat → List En) (k : Nat) : totL L k ≤ totL L (k + 1) := Nat.le_add_right _ _
theorem totL_le3 (L : Nat → List En) (k : Nat) (h : k ≤ 3) : totL L k ≤ totL L 3 := by
  have h0 := totL_le L 0
  have h1 := totL_le L 1
  have h2 := totL_le L 2
  rcases (by omega : k = 0 ∨ k = 1 ∨ k = 2 ∨ k = 3) with rfl | rfl | rfl | rfl <;> simp at * <;> omega

set_option maxHeartbeats 1000000 in
theorem concat (c : Nat) (A : Nat → Addr) (C : Nat → Nat) (L : Nat → List En) (w : World)
    (hc : ∀ k, k < 3 → w.cell? ⟨c, k, none⟩ = some (.slice (some (A k)) (L k).length (C k)))
    (hL : ∀ k, k < 3 → ∀ j u, (ecells (L k))[j]? = some u → w.cell? ((A k).add j) = some u) (h0 : 0 < totL L 3) (hn : totL L 3 ≤ 131072) :
    Calls Try.prog 28 #[.slice (some ⟨c, 0, none⟩) 3 3] w fun e w' => ∃ cap, e = .returned (.slice (some ⟨w.heap.size, 0, none⟩) (totL L 3) cap) ∧ w'.ownsRow w.heap.size 30 3 (.slice (some ⟨w.heap.size, 0, none⟩) (totL L 3) cap) (totL L 3) (ecells (catL L 3)) ∧ Below w.heap.size w w' := by
  have HCC := hide hc
  have HL := hide hL
  have HG := hide (grow (totL L 3) w h0 hn)
  clear hc hL
  obtain ⟨i0, hi, hz0, hz1, hz2⟩ := info_parts Try.info30
  go_enter Try.func28, Try.ntmps28
  go_wp2
  go_loop [3, 11] (fun z i => ∃ k : Nat, k ≤ 3 ∧ i = .int .i64 k ∧ z = .int .i64 (totL L k)) (fun _ i => 3 - (intOf i).toNat)
  case atStart => exact ⟨0, Nat.zero_le _, rfl, rfl⟩
  case round =>
    obtain ⟨k, hk, rfl, rfl⟩ := hrel
    by_cases hlt : k < 3
    · have hcell := HCC.out k hlt
      have h1 := totL_le3 L (k + 1) hlt
      have hs : totL L (k + 1) = totL L k + (L k).length := rfl
      generalize hkk : totL L (k + 1) = tk at h1 hs
      have HT := hide hkk
      clear hkk
      generalize (L k).length = lk at *
      generalize totL L k = tk0 at *
      generalize C k = ck at *
      generalize A k = ak at *
      go_wp2
      go_round
      case rel => exact ⟨k + 1, by omega, by go_num, by rw [HT.out, hs]; go_num⟩
      case measure => simp [intOf]; omega
    · obtain rfl : k = 3 := by omega
      go_wp2_with (go_at_call 34; refine HG.out.mono ?_; rintro e w1 ⟨cap, rfl, hcap, hown, hb⟩)
      have HO := hide hown
      have HB := hide hb
      clear hown hb
      go_loopw [6, 27] (fun v i wr => ∃ k : Nat, k ≤ 3 ∧ i = .int .i64 k ∧ v = .slice (some ⟨w.heap.size, 0, none⟩) (totL L k) cap ∧ Hid (wr.ownsRow w.heap.size 30 3 (.slice (some ⟨w.heap.size, 0, none⟩) (totL L k) cap) (totL L k) (ecells (catL L k))) ∧ Hid (Below w.heap.size w wr)) (fun _ i _ => 3 - (intOf i).toNat)
      case atStart => exact ⟨0, Nat.zero_le _, rfl, rfl, HO.out, HB.out⟩
      case round =>
        obtain ⟨k, hk, rfl, rfl, HO2, HB2⟩ := hrel
        by_cases hlt : k < 3
        · have hcell : wr.cell? ⟨c, k, none⟩ = _ := (HB2.out.cell (World.block_lt_of_cell? w _ (HCC.out k hlt))).trans (HCC.out k hlt)
          have h1 := totL_le3 L (k + 1) hlt
          have hs : totL L (k + 1) = totL L k + (L k).length := rfl
          have HN : Hid (∀ j u, (ecells (L k))[j]? = some u → wr.cell? ((A k).add j) = some u) := fun j u hu => (HB2.out.cell (World.block_lt_of_cell? w _ (HL.out k hlt j u hu))).trans (HL.out k hlt j u hu)
          have HNL := hide (ecells_length (L k))
          have H1C := hide (ecells_one (L k))
          have HCAT : Hid (ecells (catL L (k + 1)) = ecells (catL L k) ++ ecells (L k)) := ecells_append _ _
          have HT : Hid (totL L (k + 1) = totL L k + (L k).length) := rfl
          rw [hs] at h1
          clear hs
          generalize totL L 3 = t3 at *
          generalize (L k).length = lk at *
          generalize totL L k = tk0 at *
          generalize C k = ck at *
          generalize A k = ak at *
          have hfit : tk0 + lk ≤ cap := by omega
          go_wp2_with (at_builtin; refine wpList_append_fits _ rfl (.tmp 31) (.tmp 32) 27 rfl w.heap.size 30 i0 3 Try.underlying27 hi hz1 w.heap.size tk0 cap _ rfl HO2.out ak lk ck _ rfl HNL.out HN.out H1C.out hfit ?_; intro w2 hown2 hgrow2)
          go_roundw
          case rel => 
            refine ⟨k + 1, by omega, by go_num, by rw [HT.out], ?_, HB2.out.grown hgrow2 HB2.out.size (fun q e => by cases e; exact Nat.le_refl _)⟩
            rw [HT.out, HCAT.out]
            exact hown2
          case measure => simp [intOf]; omega
        · obtain rfl : k = 3 := by omega
          go_wp2
          go_ret
          exact ⟨cap, rfl, HO2.out, HB2.out⟩

end Go.Proofs.Qxb6604107a
