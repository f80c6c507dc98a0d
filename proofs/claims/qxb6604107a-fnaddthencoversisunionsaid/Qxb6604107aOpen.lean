import Derived.Test.Qxb6604107aBase
namespace Go.Proofs.Qxb6604107a
open Go.ChangeShapes Go.WideShapes Go.ChangeAt Go.RowKit

theorem own : ownKnob Try.prog.godebug = none := by kernel_rfl
theorem laidOut : laidOutB Try.prog = true := by kernel_rfl

/-- A slice of int64s that came in. -/
theorem open_Ints {H : Type} {enc : TypeId × Value → H} {W : World} {a : Option Addr} {len cap : Nat} {d : DataW H} {p : List MemPlace}
    (h : DataW.Trod enc Try.prog W 0 (fun _ => true) true 23 (.slice a len cap) d p) : ∃ zs, Ints W a len zs ∧ len ≤ maxLen := by
  obtain ⟨fuel, hf⟩ := h
  rcases open_ints Try.underlying23 Try.underlying2 (by kernel_rfl) hf with ⟨hcs, _⟩ | ⟨x, l, c, zs, hcs, _, hl, hm, hz, _, hcell, hwz⟩
  · simp [Value.cells] at hcs
    obtain ⟨rfl, rfl, rfl⟩ := hcs
    exact ⟨[], ⟨rfl, fun z hz => (by simp at hz), fun h => (by omega)⟩, Nat.zero_le _⟩
  · simp [Value.cells] at hcs
    obtain ⟨rfl, rfl, rfl⟩ := hcs
    simp only [if_true] at hz
    refine ⟨zs.take len, ⟨by simp; omega, fun z h => hwz z (List.mem_of_mem_take h), fun hn => ?_⟩, by omega⟩
    obtain ⟨b, off, rfl, hc⟩ := ints_at hcell (by omega)
    have hb : b < W.heap.size := by
      have := World.block_lt_of_cell? W _ (hc 0 (by omega))
      exact this
    refine ⟨b, off, rfl, hb, fun i hi => ?_⟩
    have hi' : i < zs.length := by simp at hi; omega
    rw [hc i hi', List.getElem_take]
    simp [List.getD, hi']

/-- A slice of strings that came in. -/
theorem open_Strs {H : Type} {enc : TypeId × Value → H} {W : World} {a : Option Addr} {len cap : Nat} {d : DataW H} {p : List MemPlace}
    (h : DataW.Trod enc Try.prog W 0 (fun _ => true) true 22 (.slice a len cap) d p) : ∃ ss, Strs W a len ss ∧ len ≤ maxLen := by
  obtain ⟨fuel, hf⟩ := h
  rcases open_strings Try.underlying22 Try.underlying9 (by kernel_rfl) hf with ⟨hcs, _⟩ | ⟨x, l, c, zs, hcs, _, hl, hm, hz, _, hcell, hwz⟩
  · simp [Value.cells] at hcs
    obtain ⟨rfl, rfl, rfl⟩ := hcs
    exact ⟨[], ⟨rfl, fun z hz => (by simp at hz), fun h => (by omega)⟩, Nat.zero_le _⟩
  · simp [Value.cells] at hcs
    obtain ⟨rfl, rfl, rfl⟩ := hcs
    simp only [if_true] at hz
    refine ⟨zs.take len, ⟨by simp; omega, fun z h => hwz z (List.mem_of_mem_take h), fun hn => ?_⟩, by omega⟩
    obtain ⟨b, off, spot⟩ := x
    have hspot : spot = none := by simpa [Addr.add] using World.cell?_spot (hcell 0 (by omega))
    subst hspot
    have hc : ∀ j, j < zs.length → W.cell? ⟨b, off + j, none⟩ = some (.string (zs.getD j ByteArray.empty)) := fun j hj => by rw [← Go.WideShapes.add_plain]; exact hcell j hj
    have hb : b < W.heap.size := by
      have := World.block_lt_of_cell? W _ (hc 0 (by omega))
      exact this
    refine ⟨b, off, rfl, hb, fun i hi => ?_⟩
    have hi' : i < zs.length := by simp at hi; omega
    rw [hc i hi', List.getElem_take]
    simp [List.getD, hi']

end Go.Proofs.Qxb6604107a
