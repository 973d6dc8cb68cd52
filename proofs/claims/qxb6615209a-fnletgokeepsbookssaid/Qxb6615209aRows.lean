/-
  No cell of these rows narrows 'for every input' (looked for: loops, veiled, ifaces, maps, wideKeys, modest, calm, conditions, laid).
  DERIVED. THE GIVEN ROWS OF THIS SEAT. 2 by the template 'for every input the law returns true; each argument reads behind the call as it read before'; 0 by the template 'total and deterministic' (their statements: Qxb6615209aTotals.lean).
  GIVEN WITH THE SEED: the statements are not yours to turn. If you find one false, say at which input.
  Laid BY PROGRAM, IN A SANDBOX (cutbox-rows.mjs): the forced cells as the released guide's own fill.sh prints them over the translation b22cc0eb08fd067f… (all of the seat's roots in one cut). By AI agents, Wed Nov 11 2026. No macro, syntax, notation, axiom, sorry.
-/
import Derived.Test.Qxb6615209aChecked
import GoSem.Claim
import GoSem.ClaimJoined
import GoSem.ClaimMapViews
import Derived.JoinedTies
import Derived.KernelRfl
namespace Go.Proofs.Qxb6615209a
/- THE CELL 'sum', in the pinned program and in every row, IS THE sha256 OF THE DUMP (.gsa) THAT Qxb6615209aProg.lean LOADS. Nothing in Lean hashes anything: it is a label: what it is worth is what the hold of that sum in a sandbox is worth. -/
noncomputable def Try.pinned : Pinned := { name := "qxb6615209a", sum := "b22cc0eb08fd067f76148c914faabdfc04a1352f72949134e779181bae978cf4", checked := Try.checked }
namespace Rows
def none {H : Type} : Left H := { results := [], args := [] }

/-- 'zzlaws_internal_sip_b1.FnLetGoLaterMomentDecides': WHATEVER THE INPUT: true; the input reads as it did. -/
def fnLetGoLaterMomentDecidesSpec : ChangeSpec := { name := "fnLetGoLaterMomentDecides", fn := fun _ => fun
  | [d1, d2, d3, d4] => { results := [.lit (.bool true)], args := [d1, d2, d3, d4] }
  | _ => none }
def fnLetGoLaterMomentDecidesRow : OpenClaim := { program := "qxb6615209a", sum := "b22cc0eb08fd067f76148c914faabdfc04a1352f72949134e779181bae978cf4", func := "example.com/ringside/ringside/zzlaws_internal_sip_b1.FnLetGoLaterMomentDecides", spec := "fnLetGoLaterMomentDecides", apart := false }
def FnLetGoLaterMomentDecidesSaid : Prop := fnLetGoLaterMomentDecidesRow.holds Try.pinned (OpenSpec.ofChange fnLetGoLaterMomentDecidesSpec)

/-- ITS FALSE NEIGHBOUR: 'it returns false'. Refute it at one input. -/
def fnLetGoLaterMomentDecidesWrong : ChangeSpec := { name := "fnLetGoLaterMomentDecides", fn := fun _ => fun
  | [d1, d2, d3, d4] => { results := [.lit (.bool false)], args := [d1, d2, d3, d4] }
  | _ => none }
def FnLetGoLaterMomentDecidesWrongFalsely : Prop := fnLetGoLaterMomentDecidesRow.holds Try.pinned (OpenSpec.ofChange fnLetGoLaterMomentDecidesWrong)

/-- 'zzlaws_internal_sip_b1.FnLetGoKeepsBooks': WHATEVER THE INPUT: true; the input reads as it did. -/
def fnLetGoKeepsBooksSpec : ChangeSpec := { name := "fnLetGoKeepsBooks", fn := fun _ => fun
  | [d1, d2, d3] => { results := [.lit (.bool true)], args := [d1, d2, d3] }
  | _ => none }
def fnLetGoKeepsBooksRow : OpenClaim := { program := "qxb6615209a", sum := "b22cc0eb08fd067f76148c914faabdfc04a1352f72949134e779181bae978cf4", func := "example.com/ringside/ringside/zzlaws_internal_sip_b1.FnLetGoKeepsBooks", spec := "fnLetGoKeepsBooks", apart := false }
def FnLetGoKeepsBooksSaid : Prop := fnLetGoKeepsBooksRow.holds Try.pinned (OpenSpec.ofChange fnLetGoKeepsBooksSpec)

/-- ITS FALSE NEIGHBOUR: 'it returns false'. Refute it at one input. -/
def fnLetGoKeepsBooksWrong : ChangeSpec := { name := "fnLetGoKeepsBooks", fn := fun _ => fun
  | [d1, d2, d3] => { results := [.lit (.bool false)], args := [d1, d2, d3] }
  | _ => none }
def FnLetGoKeepsBooksWrongFalsely : Prop := fnLetGoKeepsBooksRow.holds Try.pinned (OpenSpec.ofChange fnLetGoKeepsBooksWrong)

end Rows
end Go.Proofs.Qxb6615209a
