/-
  No cell of these rows narrows 'for every input' (looked for: loops, veiled, ifaces, maps, wideKeys, modest, calm, conditions, laid).
  DERIVED. THE GIVEN ROWS OF THIS SEAT. 7 by the template 'for every input the law returns true; each argument reads behind the call as it read before'; 0 by the template 'total and deterministic' (their statements: Qxb6604169aTotals.lean).
  GIVEN WITH THE SEED: the statements are not yours to turn. If you find one false, say at which input.
  Laid BY PROGRAM, IN A SANDBOX (cutbox-rows.mjs): the forced cells as the released guide's own fill.sh prints them over the translation 79f0e265734a68ec… (all of the seat's roots in one cut). By AI agents, Wed Nov 11 2026. No macro, syntax, notation, axiom, sorry.
-/
import Derived.Test.Qxb6604169aChecked
import GoSem.Claim
import GoSem.ClaimJoined
import GoSem.ClaimMapViews
import Derived.JoinedTies
import Derived.KernelRfl
namespace Go.Proofs.Qxb6604169a
/- THE CELL 'sum', in the pinned program and in every row, IS THE sha256 OF THE DUMP (.gsa) THAT Qxb6604169aProg.lean LOADS. Nothing in Lean hashes anything: it is a label: what it is worth is what the hold of that sum in a sandbox is worth. -/
noncomputable def Try.pinned : Pinned := { name := "qxb6604169a", sum := "79f0e265734a68ec58f367d40b2d07b254f6114195e5851940e371f1342761fd", checked := Try.checked }
namespace Rows
def none {H : Type} : Left H := { results := [], args := [] }

/-- 'zzlaws_internal_lattice_b1.FnSetsJoinIsSortedUnion': WHATEVER THE INPUT: true; the input reads as it did. -/
def fnSetsJoinIsSortedUnionSpec : ChangeSpec := { name := "fnSetsJoinIsSortedUnion", fn := fun _ => fun
  | [d1, d2] => { results := [.lit (.bool true)], args := [d1, d2] }
  | _ => none }
def fnSetsJoinIsSortedUnionRow : OpenClaim := { program := "qxb6604169a", sum := "79f0e265734a68ec58f367d40b2d07b254f6114195e5851940e371f1342761fd", func := "example.com/ebbtide/ebbtide/zzlaws_internal_lattice_b1.FnSetsJoinIsSortedUnion", spec := "fnSetsJoinIsSortedUnion", apart := false }
def FnSetsJoinIsSortedUnionSaid : Prop := fnSetsJoinIsSortedUnionRow.holds Try.pinned (OpenSpec.ofChange fnSetsJoinIsSortedUnionSpec)

/-- ITS FALSE NEIGHBOUR: 'it returns false'. Refute it at one input. -/
def fnSetsJoinIsSortedUnionWrong : ChangeSpec := { name := "fnSetsJoinIsSortedUnion", fn := fun _ => fun
  | [d1, d2] => { results := [.lit (.bool false)], args := [d1, d2] }
  | _ => none }
def FnSetsJoinIsSortedUnionWrongFalsely : Prop := fnSetsJoinIsSortedUnionRow.holds Try.pinned (OpenSpec.ofChange fnSetsJoinIsSortedUnionWrong)

/-- 'zzlaws_internal_lattice_b1.FnSetsJoinIsSemilattice': WHATEVER THE INPUT: true; the input reads as it did. -/
def fnSetsJoinIsSemilatticeSpec : ChangeSpec := { name := "fnSetsJoinIsSemilattice", fn := fun _ => fun
  | [d1, d2, d3] => { results := [.lit (.bool true)], args := [d1, d2, d3] }
  | _ => none }
def fnSetsJoinIsSemilatticeRow : OpenClaim := { program := "qxb6604169a", sum := "79f0e265734a68ec58f367d40b2d07b254f6114195e5851940e371f1342761fd", func := "example.com/ebbtide/ebbtide/zzlaws_internal_lattice_b1.FnSetsJoinIsSemilattice", spec := "fnSetsJoinIsSemilattice", apart := false }
def FnSetsJoinIsSemilatticeSaid : Prop := fnSetsJoinIsSemilatticeRow.holds Try.pinned (OpenSpec.ofChange fnSetsJoinIsSemilatticeSpec)

/-- ITS FALSE NEIGHBOUR: 'it returns false'. Refute it at one input. -/
def fnSetsJoinIsSemilatticeWrong : ChangeSpec := { name := "fnSetsJoinIsSemilattice", fn := fun _ => fun
  | [d1, d2, d3] => { results := [.lit (.bool false)], args := [d1, d2, d3] }
  | _ => none }
def FnSetsJoinIsSemilatticeWrongFalsely : Prop := fnSetsJoinIsSemilatticeRow.holds Try.pinned (OpenSpec.ofChange fnSetsJoinIsSemilatticeWrong)

/-- 'zzlaws_internal_lattice_b1.FnSetsBelowIsContainment': WHATEVER THE INPUT: true; the input reads as it did. -/
def fnSetsBelowIsContainmentSpec : ChangeSpec := { name := "fnSetsBelowIsContainment", fn := fun _ => fun
  | [d1, d2] => { results := [.lit (.bool true)], args := [d1, d2] }
  | _ => none }
def fnSetsBelowIsContainmentRow : OpenClaim := { program := "qxb6604169a", sum := "79f0e265734a68ec58f367d40b2d07b254f6114195e5851940e371f1342761fd", func := "example.com/ebbtide/ebbtide/zzlaws_internal_lattice_b1.FnSetsBelowIsContainment", spec := "fnSetsBelowIsContainment", apart := false }
def FnSetsBelowIsContainmentSaid : Prop := fnSetsBelowIsContainmentRow.holds Try.pinned (OpenSpec.ofChange fnSetsBelowIsContainmentSpec)

/-- ITS FALSE NEIGHBOUR: 'it returns false'. Refute it at one input. -/
def fnSetsBelowIsContainmentWrong : ChangeSpec := { name := "fnSetsBelowIsContainment", fn := fun _ => fun
  | [d1, d2] => { results := [.lit (.bool false)], args := [d1, d2] }
  | _ => none }
def FnSetsBelowIsContainmentWrongFalsely : Prop := fnSetsBelowIsContainmentRow.holds Try.pinned (OpenSpec.ofChange fnSetsBelowIsContainmentWrong)

/-- 'zzlaws_internal_lattice_b1.FnSetsJoinIsLeastUpperBound': WHATEVER THE INPUT: true; the input reads as it did. -/
def fnSetsJoinIsLeastUpperBoundSpec : ChangeSpec := { name := "fnSetsJoinIsLeastUpperBound", fn := fun _ => fun
  | [d1, d2, d3] => { results := [.lit (.bool true)], args := [d1, d2, d3] }
  | _ => none }
def fnSetsJoinIsLeastUpperBoundRow : OpenClaim := { program := "qxb6604169a", sum := "79f0e265734a68ec58f367d40b2d07b254f6114195e5851940e371f1342761fd", func := "example.com/ebbtide/ebbtide/zzlaws_internal_lattice_b1.FnSetsJoinIsLeastUpperBound", spec := "fnSetsJoinIsLeastUpperBound", apart := false }
def FnSetsJoinIsLeastUpperBoundSaid : Prop := fnSetsJoinIsLeastUpperBoundRow.holds Try.pinned (OpenSpec.ofChange fnSetsJoinIsLeastUpperBoundSpec)

/-- ITS FALSE NEIGHBOUR: 'it returns false'. Refute it at one input. -/
def fnSetsJoinIsLeastUpperBoundWrong : ChangeSpec := { name := "fnSetsJoinIsLeastUpperBound", fn := fun _ => fun
  | [d1, d2, d3] => { results := [.lit (.bool false)], args := [d1, d2, d3] }
  | _ => none }
def FnSetsJoinIsLeastUpperBoundWrongFalsely : Prop := fnSetsJoinIsLeastUpperBoundRow.holds Try.pinned (OpenSpec.ofChange fnSetsJoinIsLeastUpperBoundWrong)

/-- 'zzlaws_internal_lattice_b1.FnSetsBelowIsPartialOrder': WHATEVER THE INPUT: true; the input reads as it did. -/
def fnSetsBelowIsPartialOrderSpec : ChangeSpec := { name := "fnSetsBelowIsPartialOrder", fn := fun _ => fun
  | [d1, d2, d3] => { results := [.lit (.bool true)], args := [d1, d2, d3] }
  | _ => none }
def fnSetsBelowIsPartialOrderRow : OpenClaim := { program := "qxb6604169a", sum := "79f0e265734a68ec58f367d40b2d07b254f6114195e5851940e371f1342761fd", func := "example.com/ebbtide/ebbtide/zzlaws_internal_lattice_b1.FnSetsBelowIsPartialOrder", spec := "fnSetsBelowIsPartialOrder", apart := false }
def FnSetsBelowIsPartialOrderSaid : Prop := fnSetsBelowIsPartialOrderRow.holds Try.pinned (OpenSpec.ofChange fnSetsBelowIsPartialOrderSpec)

/-- ITS FALSE NEIGHBOUR: 'it returns false'. Refute it at one input. -/
def fnSetsBelowIsPartialOrderWrong : ChangeSpec := { name := "fnSetsBelowIsPartialOrder", fn := fun _ => fun
  | [d1, d2, d3] => { results := [.lit (.bool false)], args := [d1, d2, d3] }
  | _ => none }
def FnSetsBelowIsPartialOrderWrongFalsely : Prop := fnSetsBelowIsPartialOrderRow.holds Try.pinned (OpenSpec.ofChange fnSetsBelowIsPartialOrderWrong)

/-- 'zzlaws_internal_lattice_b1.FnNumbersJoinIsMax': WHATEVER THE INPUT: true; the input reads as it did. -/
def fnNumbersJoinIsMaxSpec : ChangeSpec := { name := "fnNumbersJoinIsMax", fn := fun _ => fun
  | [d1, d2, d3, d4] => { results := [.lit (.bool true)], args := [d1, d2, d3, d4] }
  | _ => none }
def fnNumbersJoinIsMaxRow : OpenClaim := { program := "qxb6604169a", sum := "79f0e265734a68ec58f367d40b2d07b254f6114195e5851940e371f1342761fd", func := "example.com/ebbtide/ebbtide/zzlaws_internal_lattice_b1.FnNumbersJoinIsMax", spec := "fnNumbersJoinIsMax", apart := false }
def FnNumbersJoinIsMaxSaid : Prop := fnNumbersJoinIsMaxRow.holds Try.pinned (OpenSpec.ofChange fnNumbersJoinIsMaxSpec)

/-- ITS FALSE NEIGHBOUR: 'it returns false'. Refute it at one input. -/
def fnNumbersJoinIsMaxWrong : ChangeSpec := { name := "fnNumbersJoinIsMax", fn := fun _ => fun
  | [d1, d2, d3, d4] => { results := [.lit (.bool false)], args := [d1, d2, d3, d4] }
  | _ => none }
def FnNumbersJoinIsMaxWrongFalsely : Prop := fnNumbersJoinIsMaxRow.holds Try.pinned (OpenSpec.ofChange fnNumbersJoinIsMaxWrong)

/-- 'zzlaws_internal_lattice_b1.FnNumbersJoinIsSemilattice': WHATEVER THE INPUT: true; the input reads as it did. -/
def fnNumbersJoinIsSemilatticeSpec : ChangeSpec := { name := "fnNumbersJoinIsSemilattice", fn := fun _ => fun
  | [d1, d2, d3, d4, d5, d6] => { results := [.lit (.bool true)], args := [d1, d2, d3, d4, d5, d6] }
  | _ => none }
def fnNumbersJoinIsSemilatticeRow : OpenClaim := { program := "qxb6604169a", sum := "79f0e265734a68ec58f367d40b2d07b254f6114195e5851940e371f1342761fd", func := "example.com/ebbtide/ebbtide/zzlaws_internal_lattice_b1.FnNumbersJoinIsSemilattice", spec := "fnNumbersJoinIsSemilattice", apart := false }
def FnNumbersJoinIsSemilatticeSaid : Prop := fnNumbersJoinIsSemilatticeRow.holds Try.pinned (OpenSpec.ofChange fnNumbersJoinIsSemilatticeSpec)

/-- ITS FALSE NEIGHBOUR: 'it returns false'. Refute it at one input. -/
def fnNumbersJoinIsSemilatticeWrong : ChangeSpec := { name := "fnNumbersJoinIsSemilattice", fn := fun _ => fun
  | [d1, d2, d3, d4, d5, d6] => { results := [.lit (.bool false)], args := [d1, d2, d3, d4, d5, d6] }
  | _ => none }
def FnNumbersJoinIsSemilatticeWrongFalsely : Prop := fnNumbersJoinIsSemilatticeRow.holds Try.pinned (OpenSpec.ofChange fnNumbersJoinIsSemilatticeWrong)

end Rows
end Go.Proofs.Qxb6604169a
