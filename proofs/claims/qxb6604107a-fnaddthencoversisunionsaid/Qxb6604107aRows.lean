/-
  No cell of these rows narrows 'for every input' (looked for: loops, veiled, ifaces, maps, wideKeys, modest, calm, conditions, laid).
  DERIVED. THE GIVEN ROWS OF THIS SEAT. 4 by the template 'for every input the law returns true; each argument reads behind the call as it read before'; 0 by the template 'total and deterministic' (their statements: Qxb6604107aTotals.lean).
  GIVEN WITH THE SEED: the statements are not yours to turn. If you find one false, say at which input.
  Laid BY PROGRAM, IN A SANDBOX (cutbox-rows.mjs): the forced cells as the released guide's own fill.sh prints them over the translation a993c77416be1a29… (all of the seat's roots in one cut). By AI agents, Wed Nov 11 2026. No macro, syntax, notation, axiom, sorry.
-/
import Derived.Test.Qxb6604107aChecked
import GoSem.Claim
import GoSem.ClaimJoined
import GoSem.ClaimMapViews
import Derived.JoinedTies
import Derived.KernelRfl
namespace Go.Proofs.Qxb6604107a
/- THE CELL 'sum', in the pinned program and in every row, IS THE sha256 OF THE DUMP (.gsa) THAT Qxb6604107aProg.lean LOADS. Nothing in Lean hashes anything: it is a label: what it is worth is what the hold of that sum in a sandbox is worth. -/
noncomputable def Try.pinned : Pinned := { name := "qxb6604107a", sum := "a993c77416be1a29bced147ec90362d0d00c2590af064add0bde050f0c7b1b70", checked := Try.checked }
namespace Rows
def none {H : Type} : Left H := { results := [], args := [] }

/-- 'zzlaws_internal_tombstone_b1.FnAddMatchesInsertThenCoalesce': WHATEVER THE INPUT: true; the input reads as it did. -/
def fnAddMatchesInsertThenCoalesceSpec : ChangeSpec := { name := "fnAddMatchesInsertThenCoalesce", fn := fun _ => fun
  | [d1, d2, d3, d4, d5, d6] => { results := [.lit (.bool true)], args := [d1, d2, d3, d4, d5, d6] }
  | _ => none }
def fnAddMatchesInsertThenCoalesceRow : OpenClaim := { program := "qxb6604107a", sum := "a993c77416be1a29bced147ec90362d0d00c2590af064add0bde050f0c7b1b70", func := "example.com/chronopack/chronopack/zzlaws_internal_tombstone_b1.FnAddMatchesInsertThenCoalesce", spec := "fnAddMatchesInsertThenCoalesce", inPlace := ["internal/bytealg.abigen_runtime_cmpstring"], unfollowed := true, recurses := true, apart := false }
def FnAddMatchesInsertThenCoalesceSaid : Prop := fnAddMatchesInsertThenCoalesceRow.holds Try.pinned (OpenSpec.ofChange fnAddMatchesInsertThenCoalesceSpec)

/-- ITS FALSE NEIGHBOUR: 'it returns false'. Refute it at one input. -/
def fnAddMatchesInsertThenCoalesceWrong : ChangeSpec := { name := "fnAddMatchesInsertThenCoalesce", fn := fun _ => fun
  | [d1, d2, d3, d4, d5, d6] => { results := [.lit (.bool false)], args := [d1, d2, d3, d4, d5, d6] }
  | _ => none }
def FnAddMatchesInsertThenCoalesceWrongFalsely : Prop := fnAddMatchesInsertThenCoalesceRow.holds Try.pinned (OpenSpec.ofChange fnAddMatchesInsertThenCoalesceWrong)

/-- 'zzlaws_internal_tombstone_b1.FnAddThenCoversIsUnion': WHATEVER THE INPUT: true; the input reads as it did. -/
def fnAddThenCoversIsUnionSpec : ChangeSpec := { name := "fnAddThenCoversIsUnion", fn := fun _ => fun
  | [d1, d2, d3, d4, d5, d6, d7, d8] => { results := [.lit (.bool true)], args := [d1, d2, d3, d4, d5, d6, d7, d8] }
  | _ => none }
def fnAddThenCoversIsUnionRow : OpenClaim := { program := "qxb6604107a", sum := "a993c77416be1a29bced147ec90362d0d00c2590af064add0bde050f0c7b1b70", func := "example.com/chronopack/chronopack/zzlaws_internal_tombstone_b1.FnAddThenCoversIsUnion", spec := "fnAddThenCoversIsUnion", inPlace := ["internal/bytealg.abigen_runtime_cmpstring"], unfollowed := true, recurses := true, apart := false }
def FnAddThenCoversIsUnionSaid : Prop := fnAddThenCoversIsUnionRow.holds Try.pinned (OpenSpec.ofChange fnAddThenCoversIsUnionSpec)

/-- ITS FALSE NEIGHBOUR: 'it returns false'. Refute it at one input. -/
def fnAddThenCoversIsUnionWrong : ChangeSpec := { name := "fnAddThenCoversIsUnion", fn := fun _ => fun
  | [d1, d2, d3, d4, d5, d6, d7, d8] => { results := [.lit (.bool false)], args := [d1, d2, d3, d4, d5, d6, d7, d8] }
  | _ => none }
def FnAddThenCoversIsUnionWrongFalsely : Prop := fnAddThenCoversIsUnionRow.holds Try.pinned (OpenSpec.ofChange fnAddThenCoversIsUnionWrong)

/-- 'zzlaws_internal_tombstone_b1.FnCoversMatchesLinearScan': WHATEVER THE INPUT: true; the input reads as it did. -/
def fnCoversMatchesLinearScanSpec : ChangeSpec := { name := "fnCoversMatchesLinearScan", fn := fun _ => fun
  | [d1, d2, d3, d4] => { results := [.lit (.bool true)], args := [d1, d2, d3, d4] }
  | _ => none }
def fnCoversMatchesLinearScanRow : OpenClaim := { program := "qxb6604107a", sum := "a993c77416be1a29bced147ec90362d0d00c2590af064add0bde050f0c7b1b70", func := "example.com/chronopack/chronopack/zzlaws_internal_tombstone_b1.FnCoversMatchesLinearScan", spec := "fnCoversMatchesLinearScan", unfollowed := true, recurses := true, apart := false }
def FnCoversMatchesLinearScanSaid : Prop := fnCoversMatchesLinearScanRow.holds Try.pinned (OpenSpec.ofChange fnCoversMatchesLinearScanSpec)

/-- ITS FALSE NEIGHBOUR: 'it returns false'. Refute it at one input. -/
def fnCoversMatchesLinearScanWrong : ChangeSpec := { name := "fnCoversMatchesLinearScan", fn := fun _ => fun
  | [d1, d2, d3, d4] => { results := [.lit (.bool false)], args := [d1, d2, d3, d4] }
  | _ => none }
def FnCoversMatchesLinearScanWrongFalsely : Prop := fnCoversMatchesLinearScanRow.holds Try.pinned (OpenSpec.ofChange fnCoversMatchesLinearScanWrong)

/-- 'zzlaws_internal_tombstone_b1.FnOfKeyIsTheFilter': WHATEVER THE INPUT: true; the input reads as it did. -/
def fnOfKeyIsTheFilterSpec : ChangeSpec := { name := "fnOfKeyIsTheFilter", fn := fun _ => fun
  | [d1, d2, d3, d4] => { results := [.lit (.bool true)], args := [d1, d2, d3, d4] }
  | _ => none }
def fnOfKeyIsTheFilterRow : OpenClaim := { program := "qxb6604107a", sum := "a993c77416be1a29bced147ec90362d0d00c2590af064add0bde050f0c7b1b70", func := "example.com/chronopack/chronopack/zzlaws_internal_tombstone_b1.FnOfKeyIsTheFilter", spec := "fnOfKeyIsTheFilter", inPlace := ["internal/bytealg.abigen_runtime_cmpstring"], unfollowed := true, recurses := true, apart := false }
def FnOfKeyIsTheFilterSaid : Prop := fnOfKeyIsTheFilterRow.holds Try.pinned (OpenSpec.ofChange fnOfKeyIsTheFilterSpec)

/-- ITS FALSE NEIGHBOUR: 'it returns false'. Refute it at one input. -/
def fnOfKeyIsTheFilterWrong : ChangeSpec := { name := "fnOfKeyIsTheFilter", fn := fun _ => fun
  | [d1, d2, d3, d4] => { results := [.lit (.bool false)], args := [d1, d2, d3, d4] }
  | _ => none }
def FnOfKeyIsTheFilterWrongFalsely : Prop := fnOfKeyIsTheFilterRow.holds Try.pinned (OpenSpec.ofChange fnOfKeyIsTheFilterWrong)

end Rows
end Go.Proofs.Qxb6604107a
