/-
  No cell of these rows narrows 'for every input' (looked for: loops, veiled, ifaces, maps, wideKeys, modest, calm, conditions, laid).
  DERIVED. THE GIVEN ROWS OF THIS SEAT. 3 by the template 'for every input the law returns true; each argument reads behind the call as it read before'; 0 by the template 'total and deterministic' (their statements: Qxb6616009aTotals.lean).
  GIVEN WITH THE SEED: the statements are not yours to turn. If you find one false, say at which input.
  Laid BY PROGRAM, IN A SANDBOX (cutbox-rows.mjs): the forced cells as the released guide's own fill.sh prints them over the translation f26fc1574cd7beea… (all of the seat's roots in one cut). By AI agents, Wed Nov 11 2026. No macro, syntax, notation, axiom, sorry.
-/
import Derived.Test.Qxb6616009aChecked
import GoSem.Claim
import GoSem.ClaimJoined
import GoSem.ClaimMapViews
import Derived.JoinedTies
import Derived.KernelRfl
namespace Go.Proofs.Qxb6616009a
/- THE CELL 'sum', in the pinned program and in every row, IS THE sha256 OF THE DUMP (.gsa) THAT Qxb6616009aProg.lean LOADS. Nothing in Lean hashes anything: it is a label: what it is worth is what the hold of that sum in a sandbox is worth. -/
noncomputable def Try.pinned : Pinned := { name := "qxb6616009a", sum := "f26fc1574cd7beea9dccd1934b4356b231d033f169c9da7cd432c79111e2e167", checked := Try.checked }
namespace Rows
def none {H : Type} : Left H := { results := [], args := [] }

/-- 'zzlaws_root_b1.FnSectionOfLocal': WHATEVER THE INPUT: true; the input reads as it did. -/
def fnSectionOfLocalSpec : ChangeSpec := { name := "fnSectionOfLocal", fn := fun _ => fun
  | [d1, d2, d3] => { results := [.lit (.bool true)], args := [d1, d2, d3] }
  | _ => none }
def fnSectionOfLocalRow : OpenClaim := { program := "qxb6616009a", sum := "f26fc1574cd7beea9dccd1934b4356b231d033f169c9da7cd432c79111e2e167", func := "example.com/brackets-to-tables/brackets-to-tables/zzlaws_root_b1.FnSectionOfLocal", spec := "fnSectionOfLocal", apart := false }
def FnSectionOfLocalSaid : Prop := fnSectionOfLocalRow.holds Try.pinned (OpenSpec.ofChange fnSectionOfLocalSpec)

/-- ITS FALSE NEIGHBOUR: 'it returns false'. Refute it at one input. -/
def fnSectionOfLocalWrong : ChangeSpec := { name := "fnSectionOfLocal", fn := fun _ => fun
  | [d1, d2, d3] => { results := [.lit (.bool false)], args := [d1, d2, d3] }
  | _ => none }
def FnSectionOfLocalWrongFalsely : Prop := fnSectionOfLocalRow.holds Try.pinned (OpenSpec.ofChange fnSectionOfLocalWrong)

/-- 'zzlaws_root_b1.FnGrowNumbersArrays': WHATEVER THE INPUT: true; the input reads as it did. -/
def fnGrowNumbersArraysSpec : ChangeSpec := { name := "fnGrowNumbersArrays", fn := fun _ => fun
  | [d1, d2] => { results := [.lit (.bool true)], args := [d1, d2] }
  | _ => none }
def fnGrowNumbersArraysRow : OpenClaim := { program := "qxb6616009a", sum := "f26fc1574cd7beea9dccd1934b4356b231d033f169c9da7cd432c79111e2e167", func := "example.com/brackets-to-tables/brackets-to-tables/zzlaws_root_b1.FnGrowNumbersArrays", spec := "fnGrowNumbersArrays", apart := false }
def FnGrowNumbersArraysSaid : Prop := fnGrowNumbersArraysRow.holds Try.pinned (OpenSpec.ofChange fnGrowNumbersArraysSpec)

/-- ITS FALSE NEIGHBOUR: 'it returns false'. Refute it at one input. -/
def fnGrowNumbersArraysWrong : ChangeSpec := { name := "fnGrowNumbersArrays", fn := fun _ => fun
  | [d1, d2] => { results := [.lit (.bool false)], args := [d1, d2] }
  | _ => none }
def FnGrowNumbersArraysWrongFalsely : Prop := fnGrowNumbersArraysRow.holds Try.pinned (OpenSpec.ofChange fnGrowNumbersArraysWrong)

/-- 'zzlaws_root_b1.FnGrowLaysTablesInOrder': WHATEVER THE INPUT: true; the input reads as it did. -/
def fnGrowLaysTablesInOrderSpec : ChangeSpec := { name := "fnGrowLaysTablesInOrder", fn := fun _ => fun
  | [d1, d2] => { results := [.lit (.bool true)], args := [d1, d2] }
  | _ => none }
def fnGrowLaysTablesInOrderRow : OpenClaim := { program := "qxb6616009a", sum := "f26fc1574cd7beea9dccd1934b4356b231d033f169c9da7cd432c79111e2e167", func := "example.com/brackets-to-tables/brackets-to-tables/zzlaws_root_b1.FnGrowLaysTablesInOrder", spec := "fnGrowLaysTablesInOrder", apart := false }
def FnGrowLaysTablesInOrderSaid : Prop := fnGrowLaysTablesInOrderRow.holds Try.pinned (OpenSpec.ofChange fnGrowLaysTablesInOrderSpec)

/-- ITS FALSE NEIGHBOUR: 'it returns false'. Refute it at one input. -/
def fnGrowLaysTablesInOrderWrong : ChangeSpec := { name := "fnGrowLaysTablesInOrder", fn := fun _ => fun
  | [d1, d2] => { results := [.lit (.bool false)], args := [d1, d2] }
  | _ => none }
def FnGrowLaysTablesInOrderWrongFalsely : Prop := fnGrowLaysTablesInOrderRow.holds Try.pinned (OpenSpec.ofChange fnGrowLaysTablesInOrderWrong)

end Rows
end Go.Proofs.Qxb6616009a
