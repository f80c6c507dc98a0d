import Derived.Test.Qxb6604107aBase
namespace Go.Proofs.Qxb6604107a
open Go.ChangeShapes Go.WideShapes Go.ChangeAt Go.RowKit
set_option linter.unusedVariables false

theorem Try.info30 : (Try.prog.info? 30).map (fun i => (i.zero, i.size, i.bytes)) = some (some (.agg #[.string ByteArray.empty, .int .i64 0, .int .i64 0]), 3, 32) := by kernel_rfl

/-- Entry j of a list of cells. -/
def XAt (xs : List Value) (j : Nat) (e : En) : Prop :=
  xs[j * 3]? = some (.string e.key) ∧ xs[j * 3 + 1]? = some (.int .i64 e.mn) ∧ xs[j * 3 + 2]? = some (.int .i64 e.mx)

theorem XAt.set3 {xs : List Value} {j k : Nat} {e : En} (a b c : Value) (h : XAt xs j e) (hj : j < k) : XAt (((xs.set (k * 3) a).set (k * 3 + 1) b).set (k * 3 + 2) c) j e := by
  unfold XAt at *
  simp only [List.getElem?_set]
  repeat rw [if_neg (by omega)]
  exact h

theorem XAt.new {xs : List Value} {k : Nat} {e : En} (h : k * 3 + 2 < xs.length) : XAt (((xs.set (k * 3) (.string e.key)).set (k * 3 + 1) (.int .i64 e.mn)).set (k * 3 + 2) (.int .i64 e.mx)) k e := by
  unfold XAt
  refine ⟨?_, ?_, ?_⟩ <;> simp [List.getElem?_set] <;> omega

theorem own_cells {w : World} {base : Nat} {e : TypeId} {g n : Nat} {xs : List Value} (h : w.ownsRow base e 3 (.slice (some ⟨g, 0, none⟩) n n) n xs) {k : Nat} (hk : k < n) :
    (∃ u0 u1 u2, w.cell? ⟨g, k * 3, none⟩ = some u0 ∧ w.cell? ⟨g, k * 3 + 1, none⟩ = some u1 ∧ w.cell? ⟨g, k * 3 + 2, none⟩ = some u2) ∧ w.frozen? ⟨g, k * 3, none⟩ = false ∧ w.frozen? ⟨g, k * 3 + 1, none⟩ = false ∧ w.frozen? ⟨g, k * 3 + 2, none⟩ = false := by
  have hl := h.1
  refine ⟨⟨xs[k * 3]'(by omega), xs[k * 3 + 1]'(by omega), xs[k * 3 + 2]'(by omega), ?_, ?_, ?_⟩, h.frozenAt _, h.frozenAt _, h.frozenAt _⟩
  · rw [h.cellAt _ (by omega)]; simp
  · rw [h.cellAt _ (by omega)]; simp
  · rw [h.cellAt _ (by omega)]; simp

set_option maxHeartbeats 800000 in
theorem build (a0 a1 a2 : Option Addr) (n c0 c1 c2 : Nat) (keys : List ByteArray) (mins maxs : List Int) (w : World) (h0 : Strs w a0 n keys) (h1 : Ints w a1 n mins) (h2 : Ints w a2 n maxs) (m1 : n ≤ 65536) :
    Calls Try.prog 11 #[.slice a0 n c0, .slice a1 n c1, .slice a2 n c2] w fun e w' => e = .returned (.slice (some ⟨w.heap.size, 0, none⟩) n n) ∧ Ents w' w.heap.size 0 (ents keys mins maxs) ∧ w.heap.size < w'.heap.size ∧ Below w.heap.size w w' := by
  obtain ⟨hl0, hm0, hc0⟩ := h0
  obtain ⟨hl1, hm1, hc1⟩ := h1
  obtain ⟨hl2, hm2, hc2⟩ := h2
  have HL0 : Hid (keys.length = n) := hl0
  have HL1 : Hid (mins.length = n) := hl1
  have HL2 : Hid (maxs.length = n) := hl2
  clear hl1 hl2 hm1 hm2 hl0 hm0
  obtain ⟨i0, hi, hz0, hz1, hz2⟩ := info_parts Try.info30
  go_enter Try.func11, Try.ntmps11
  go_wp2_with (at_make; refine wpList_make_full _ rfl _ _ 27 rfl w.heap.size 30 i0 _ 3 Try.underlying27 hi hz0 hz1 .i64 .i64 _ _ n rfl rfl rfl rfl ?b2 ?b3 (Nat.le_refl _) ?_)
  case b2 => rw [hz2]; omega
  case b3 => unfold maxLen; omega
  intro w1 hown hgrow
  go_wp2
  go_loopw [8] (fun i wr => ∃ (k : Nat) (xs : List Value), k ≤ n ∧ i = .int .i64 k ∧ wr.ownsRow w.heap.size 30 3 (.slice (some ⟨w.heap.size, 0, none⟩) n n) n xs ∧ Below w.heap.size w wr ∧ Hid (∀ j (h : j < (ents keys mins maxs).length), j < k → XAt xs j (ents keys mins maxs)[j])) (fun i _ => n - (intOf i).toNat)
  case atStart => exact ⟨0, _, Nat.zero_le _, rfl, hown, (Below.refl _ _).grown hgrow (Nat.le_refl _) (fun k h => by cases h), fun j h hj => by omega⟩
  case round =>
    obtain ⟨k, xs, hk, rfl, ho, hb, HX⟩ := hrel
    by_cases hlt : k < n
    · obtain ⟨b0, off0, rfl, hb0, hcell0⟩ := hc0 (by omega)
      obtain ⟨b1, off1, rfl, hb1, hcell1⟩ := hc1 (by omega)
      obtain ⟨b2, off2, rfl, hb2, hcell2⟩ := hc2 (by omega)
      have k0 : k < keys.length := by rw [HL0.out]; exact hlt
      have k1 : k < mins.length := by rw [HL1.out]; exact hlt
      have k2 : k < maxs.length := by rw [HL2.out]; exact hlt
      have hg0 : wr.cell? ⟨b0, off0 + k, none⟩ = _ := (hb.cell (p := ⟨b0, off0 + k, none⟩) hb0).trans (hcell0 k k0)
      have hg1 : wr.cell? ⟨b1, off1 + k, none⟩ = _ := (hb.cell (p := ⟨b1, off1 + k, none⟩) hb1).trans (hcell1 k k1)
      have hg2 : wr.cell? ⟨b2, off2 + k, none⟩ = _ := (hb.cell (p := ⟨b2, off2 + k, none⟩) hb2).trans (hcell2 k k2)
      have hlen : k < (ents keys mins maxs).length := by rw [ents_length HL0.out HL1.out HL2.out]; exact hlt
      have HE : Hid ((ents keys mins maxs)[k] = ⟨keys[k], mins[k], maxs[k]⟩) := ents_get k hlen k0 k1 k2
      generalize keys[k] = key at *
      generalize mins[k] = mn at *
      generalize maxs[k] = mx at *
      obtain ⟨⟨u0, u1, u2, g0, g1, g2⟩, f0, f1, f2⟩ := own_cells ho hlt
      clear hcell0 hcell1 hcell2 hc0 hc1 hc2 hown hgrow
      have HO : Hid _ := ho
      clear ho
      go_wp2
      go_region
      go_wp2
      go_roundw
      case rel =>
        have hxl : xs.length = n * 3 := HO.out.1
        refine ⟨k + 1, ((xs.set (k * 3) (.string key)).set (k * 3 + 1) (.int .i64 mn)).set (k * 3 + 2) (.int .i64 mx), by omega, by go_num, ?_, ?_, ?_⟩
        · have ho : wr.ownsRow w.heap.size 30 3 (.slice (some ⟨w.heap.size, 0, none⟩) n n) n xs := HO.out
          exact World.ownsRow.drew (World.ownsRow.stored (World.ownsRow.stored (World.ownsRow.stored ho _ _).1 _ _).1 _ _).1
        · exact (((hb.setCell (Nat.le_refl _) _).setCell (Nat.le_refl _) _).setCell (Nat.le_refl _) _).drew
        · intro j h hj
          by_cases hjk : j < k
          · exact (HX.out j h hjk).set3 _ _ _ hjk
          · obtain rfl : j = k := by omega
            rw [HE.out]
            exact XAt.new (e := ⟨key, mn, mx⟩) (by omega)
      case measure => simp [intOf]; omega
    · clear hown hgrow hc0 hc1 hc2
      go_wp2
      go_ret
      refine ⟨rfl, fun j hj => ?_, ?_, hb⟩
      · have hn := ents_length HL0.out HL1.out HL2.out
        have h3 := HX.out j hj (by omega)
        have c := fun q hq => ho.cellAt q hq
        unfold EAt
        simp only [Nat.zero_add]
        rw [c _ (by omega), c _ (by omega), c _ (by omega)]
        exact h3
      · exact (ho.lt _ rfl).2

end Go.Proofs.Qxb6604107a
