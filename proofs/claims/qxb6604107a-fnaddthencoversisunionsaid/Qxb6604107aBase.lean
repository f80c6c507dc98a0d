import Derived.Test.Qxb6604107aRows
import Derived.WalkKit
import Derived.ProofKit
import Derived.OpenShut
import Derived.ShutString
import Derived.ChangeOld
import Derived.Below
import Derived.WalkLawsBesides
import Derived.Deep.QuietTactic
import Derived.BigQuiet
namespace Go.Proofs.Qxb6604107a
open Go.ChangeShapes Go.WideShapes Go.ChangeAt Go.RowKit

/-- A slice of strings: its cells. -/
def Strs (w : World) (a : Option Addr) (n : Nat) (ss : List ByteArray) : Prop :=
  ss.length = n ∧ (∀ s ∈ ss, s.size ≤ maxLen) ∧ (0 < n → ∃ b off, a = some ⟨b, off, none⟩ ∧ b < w.heap.size ∧ ∀ i (h : i < ss.length), w.cell? ⟨b, off + i, none⟩ = some (.string ss[i]))

/-- A slice of int64s: its cells. -/
def Ints (w : World) (a : Option Addr) (n : Nat) (zs : List Int) : Prop :=
  zs.length = n ∧ (∀ z ∈ zs, (Lit.int .i64 z).wf = true) ∧ (0 < n → ∃ b off, a = some ⟨b, off, none⟩ ∧ b < w.heap.size ∧ ∀ i (h : i < zs.length), w.cell? ⟨b, off + i, none⟩ = some (.int .i64 zs[i]))

theorem Strs.below {B : Nat} {w w' : World} {a : Option Addr} {n : Nat} {ss : List ByteArray} (h : Strs w a n ss) (hb : Below B w w') (hB : w.heap.size ≤ B) : Strs w' a n ss := by
  obtain ⟨h1, h2, h3⟩ := h
  refine ⟨h1, h2, fun hn => ?_⟩
  obtain ⟨b, off, ha, hbl, hc⟩ := h3 hn
  exact ⟨b, off, ha, Nat.lt_of_lt_of_le hbl hb.size, fun i hi => (hb.cell (by exact Nat.lt_of_lt_of_le hbl hB)).trans (hc i hi)⟩

theorem Ints.below {B : Nat} {w w' : World} {a : Option Addr} {n : Nat} {ss : List Int} (h : Ints w a n ss) (hb : Below B w w') (hB : w.heap.size ≤ B) : Ints w' a n ss := by
  obtain ⟨h1, h2, h3⟩ := h
  refine ⟨h1, h2, fun hn => ?_⟩
  obtain ⟨b, off, ha, hbl, hc⟩ := h3 hn
  exact ⟨b, off, ha, Nat.lt_of_lt_of_le hbl hb.size, fun i hi => (hb.cell (by exact Nat.lt_of_lt_of_le hbl hB)).trans (hc i hi)⟩

/-- The call hands back some bool; where it is true, P. -/
def RB (P : Prop) (e : Ending) : Prop := ∃ r : Bool, e = .returned (.bool r) ∧ (r = true → P)
theorem RB.no {P : Prop} : RB P (.returned (.bool false)) := ⟨false, rfl, fun h => by cases h⟩
theorem RB.yes {P : Prop} (h : P) : RB P (.returned (.bool true)) := ⟨true, rfl, fun _ => h⟩

/-- The call hands back some bool; where it is false, P. -/
def RF (P : Prop) (e : Ending) : Prop := ∃ r : Bool, e = .returned (.bool r) ∧ (r = false → P)
theorem RF.no {P : Prop} : RF P (.returned (.bool true)) := ⟨true, rfl, fun h => by cases h⟩
theorem RF.mk {P : Prop} (r : Bool) (h : P) : RF P (.returned (.bool r)) := ⟨r, rfl, fun _ => h⟩

theorem dr2 {w a : World} (h : ∃ m, a = w.drewN m) (q : Nat) : ∃ m, a.drewN q = w.drewN m := by
  obtain ⟨m, rfl⟩ := h
  exact ⟨m + q, by simp⟩

theorem quiet_add {P : Program} {f : FuncId} {args : Array Value} {w : World} {a n : Nat} {v : Value}
    (h : Calls P f args (w.drewN (a + n)) fun e w' => e = .returned v ∧ ∃ m, w' = (w.drewN (a + n)).drewN m) : Calls P f args (w.drewN (a + n)) fun e w'' => e = .returned v ∧ ∃ m, w'' = w.drewN (a + m) :=
  h.mono fun _ _ ⟨he, m, hm⟩ => ⟨he, n + m, by rw [hm, World.drewN_drewN, Nat.add_assoc]⟩

theorem hide {p : Prop} (h : p) : Hid p := h
theorem unhide {p : Prop} (h : Hid p) : p := h
theorem ret_int {k : IntKind} {a b : Int} (h : a = b) : Ending.returned (.int k a) = .returned (.int k b) := by rw [h]
theorem ret_bool {a b : Bool} (h : a = b) : Ending.returned (.bool a) = .returned (.bool b) := by rw [h]

/-- An entry. -/
structure En where
  key : ByteArray
  mn : Int
  mx : Int

/-- An entry as a value. -/
abbrev En.val (e : En) : Value := .agg #[.string e.key, .int .i64 e.mn, .int .i64 e.mx]

/-- Entry j of a row of entries that begins at cell 'off' of block b. -/
def EAt (w : World) (b off j : Nat) (e : En) : Prop :=
  w.cell? ⟨b, off + j * 3, none⟩ = some (.string e.key) ∧ w.cell? ⟨b, off + j * 3 + 1, none⟩ = some (.int .i64 e.mn) ∧ w.cell? ⟨b, off + j * 3 + 2, none⟩ = some (.int .i64 e.mx)

/-- A row of entries. -/
def Ents (w : World) (b off : Nat) (l : List En) : Prop := ∀ j (h : j < l.length), EAt w b off j l[j]

theorem EAt.below {B : Nat} {w w' : World} {b off j : Nat} {e : En} (h : EAt w b off j e) (hb : Below B w w') (hB : b < B) : EAt w' b off j e :=
  ⟨(hb.cell (by exact hB)).trans h.1, (hb.cell (by exact hB)).trans h.2.1, (hb.cell (by exact hB)).trans h.2.2⟩

theorem Ents.below {B : Nat} {w w' : World} {b off : Nat} {l : List En} (h : Ents w b off l) (hb : Below B w w') (hB : b < B) : Ents w' b off l :=
  fun j hj => (h j hj).below hb hB

/-- The entries that the three parallel lists say. -/
def ents (keys : List ByteArray) (mins maxs : List Int) : List En := (keys.zip (mins.zip maxs)).map fun x => ⟨x.1, x.2.1, x.2.2⟩

theorem ents_length {keys : List ByteArray} {mins maxs : List Int} {n : Nat} (h0 : keys.length = n) (h1 : mins.length = n) (h2 : maxs.length = n) : (ents keys mins maxs).length = n := by
  simp [ents, h0, h1, h2]

theorem ents_get {keys : List ByteArray} {mins maxs : List Int} (i : Nat) (h : i < (ents keys mins maxs).length) (h0 : i < keys.length) (h1 : i < mins.length) (h2 : i < maxs.length) :
    (ents keys mins maxs)[i] = ⟨keys[i], mins[i], maxs[i]⟩ := by
  simp [ents]

/-- Every key is at most 1<<20 bytes long. -/
def Short (ss : List ByteArray) : Prop := ∀ i (h : i < ss.length), ss[i].size ≤ 1048576

end Go.Proofs.Qxb6604107a
