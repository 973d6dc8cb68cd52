/-
  No cell of these rows narrows 'for every input' (looked for: loops, veiled, ifaces, maps, wideKeys, modest, calm, conditions, laid).
  DERIVED. THE GIVEN ROWS OF THIS SEAT. 2 by the template 'for every input the law returns true; each argument reads behind the call as it read before'; 0 by the template 'total and deterministic' (their statements: Qxb6615207aTotals.lean).
  GIVEN WITH THE SEED: the statements are not yours to turn. If you find one false, say at which input.
  Laid BY PROGRAM, IN A SANDBOX (cutbox-rows.mjs): the forced cells as the released guide's own fill.sh prints them over the translation 14ac632a96e710b6… (all of the seat's roots in one cut). By AI agents, Wed Nov 11 2026. No macro, syntax, notation, axiom, sorry.
-/
import Derived.Test.Qxb6615207aChecked
import GoSem.Claim
import GoSem.ClaimJoined
import GoSem.ClaimMapViews
import Derived.JoinedTies
import Derived.KernelRfl
namespace Go.Proofs.Qxb6615207a
/- THE CELL 'sum', in the pinned program and in every row, IS THE sha256 OF THE DUMP (.gsa) THAT Qxb6615207aProg.lean LOADS. Nothing in Lean hashes anything: it is a label: what it is worth is what the hold of that sum in a sandbox is worth. -/
noncomputable def Try.pinned : Pinned := { name := "qxb6615207a", sum := "14ac632a96e710b61fd364c37b4453bfb1f1e6ba54a5419b530c732b54131841", checked := Try.checked }
namespace Rows
def none {H : Type} : Left H := { results := [], args := [] }

/-- 'zzlaws_pkg_netflow_b1.FnAlignLeastMultipleOfFourAtOrAbove': WHATEVER THE INPUT: true; the input reads as it did. -/
def fnAlignLeastMultipleOfFourAtOrAboveSpec : ChangeSpec := { name := "fnAlignLeastMultipleOfFourAtOrAbove", fn := fun _ => fun
  | [d] => { results := [.lit (.bool true)], args := [d] }
  | _ => none }
def fnAlignLeastMultipleOfFourAtOrAboveRow : OpenClaim := { program := "qxb6615207a", sum := "14ac632a96e710b61fd364c37b4453bfb1f1e6ba54a5419b530c732b54131841", func := "example.com/flowmere/flowmere/zzlaws_pkg_netflow_b1.FnAlignLeastMultipleOfFourAtOrAbove", spec := "fnAlignLeastMultipleOfFourAtOrAbove", apart := false }
def FnAlignLeastMultipleOfFourAtOrAboveSaid : Prop := fnAlignLeastMultipleOfFourAtOrAboveRow.holds Try.pinned (OpenSpec.ofChange fnAlignLeastMultipleOfFourAtOrAboveSpec)

/-- ITS FALSE NEIGHBOUR: 'it returns false'. Refute it at one input. -/
def fnAlignLeastMultipleOfFourAtOrAboveWrong : ChangeSpec := { name := "fnAlignLeastMultipleOfFourAtOrAbove", fn := fun _ => fun
  | [d] => { results := [.lit (.bool false)], args := [d] }
  | _ => none }
def FnAlignLeastMultipleOfFourAtOrAboveWrongFalsely : Prop := fnAlignLeastMultipleOfFourAtOrAboveRow.holds Try.pinned (OpenSpec.ofChange fnAlignLeastMultipleOfFourAtOrAboveWrong)

/-- 'zzlaws_pkg_netflow_b1.FnAlignShiftIdempotentMonotone': WHATEVER THE INPUT: true; the input reads as it did. -/
def fnAlignShiftIdempotentMonotoneSpec : ChangeSpec := { name := "fnAlignShiftIdempotentMonotone", fn := fun _ => fun
  | [d1, d2] => { results := [.lit (.bool true)], args := [d1, d2] }
  | _ => none }
def fnAlignShiftIdempotentMonotoneRow : OpenClaim := { program := "qxb6615207a", sum := "14ac632a96e710b61fd364c37b4453bfb1f1e6ba54a5419b530c732b54131841", func := "example.com/flowmere/flowmere/zzlaws_pkg_netflow_b1.FnAlignShiftIdempotentMonotone", spec := "fnAlignShiftIdempotentMonotone", apart := false }
def FnAlignShiftIdempotentMonotoneSaid : Prop := fnAlignShiftIdempotentMonotoneRow.holds Try.pinned (OpenSpec.ofChange fnAlignShiftIdempotentMonotoneSpec)

/-- ITS FALSE NEIGHBOUR: 'it returns false'. Refute it at one input. -/
def fnAlignShiftIdempotentMonotoneWrong : ChangeSpec := { name := "fnAlignShiftIdempotentMonotone", fn := fun _ => fun
  | [d1, d2] => { results := [.lit (.bool false)], args := [d1, d2] }
  | _ => none }
def FnAlignShiftIdempotentMonotoneWrongFalsely : Prop := fnAlignShiftIdempotentMonotoneRow.holds Try.pinned (OpenSpec.ofChange fnAlignShiftIdempotentMonotoneWrong)

end Rows
end Go.Proofs.Qxb6615207a
