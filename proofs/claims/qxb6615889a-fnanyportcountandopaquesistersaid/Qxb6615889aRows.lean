/-
  No cell of these rows narrows 'for every input' (looked for: loops, veiled, ifaces, maps, wideKeys, modest, calm, conditions, laid).
  DERIVED. THE GIVEN ROWS OF THIS SEAT. 2 by the template 'for every input the law returns true; each argument reads behind the call as it read before'; 0 by the template 'total and deterministic' (their statements: Qxb6615889aTotals.lean).
  GIVEN WITH THE SEED: the statements are not yours to turn. If you find one false, say at which input.
  Laid BY PROGRAM, IN A SANDBOX (cutbox-rows.mjs): the forced cells as the released guide's own fill.sh prints them over the translation aa5a617119ab4f35… (all of the seat's roots in one cut). By AI agents, Wed Nov 11 2026. No macro, syntax, notation, axiom, sorry.
-/
import Derived.Test.Qxb6615889aChecked
import GoSem.Claim
import GoSem.ClaimJoined
import GoSem.ClaimMapViews
import Derived.JoinedTies
import Derived.KernelRfl
namespace Go.Proofs.Qxb6615889a
/- THE CELL 'sum', in the pinned program and in every row, IS THE sha256 OF THE DUMP (.gsa) THAT Qxb6615889aProg.lean LOADS. Nothing in Lean hashes anything: it is a label: what it is worth is what the hold of that sum in a sandbox is worth. -/
noncomputable def Try.pinned : Pinned := { name := "qxb6615889a", sum := "aa5a617119ab4f35263aa7cc36b05002474c084d0c0a6cb3978a2d4840667e09", checked := Try.checked }
namespace Rows
def none {H : Type} : Left H := { results := [], args := [] }

/-- 'zzlaws_internal_ike_b1.FnAnyPortCoversEveryPort': WHATEVER THE INPUT: true; the input reads as it did. -/
def fnAnyPortCoversEveryPortSpec : ChangeSpec := { name := "fnAnyPortCoversEveryPort", fn := fun _ => fun
  | [d1, d2, d3, d4] => { results := [.lit (.bool true)], args := [d1, d2, d3, d4] }
  | _ => none }
def fnAnyPortCoversEveryPortRow : OpenClaim := { program := "qxb6615889a", sum := "aa5a617119ab4f35263aa7cc36b05002474c084d0c0a6cb3978a2d4840667e09", func := "example.com/parley/parley/zzlaws_internal_ike_b1.FnAnyPortCoversEveryPort", spec := "fnAnyPortCoversEveryPort", apart := false }
def FnAnyPortCoversEveryPortSaid : Prop := fnAnyPortCoversEveryPortRow.holds Try.pinned (OpenSpec.ofChange fnAnyPortCoversEveryPortSpec)

/-- ITS FALSE NEIGHBOUR: 'it returns false'. Refute it at one input. -/
def fnAnyPortCoversEveryPortWrong : ChangeSpec := { name := "fnAnyPortCoversEveryPort", fn := fun _ => fun
  | [d1, d2, d3, d4] => { results := [.lit (.bool false)], args := [d1, d2, d3, d4] }
  | _ => none }
def FnAnyPortCoversEveryPortWrongFalsely : Prop := fnAnyPortCoversEveryPortRow.holds Try.pinned (OpenSpec.ofChange fnAnyPortCoversEveryPortWrong)

/-- 'zzlaws_internal_ike_b1.FnAnyPortCountAndOpaqueSister': WHATEVER THE INPUT: true; the input reads as it did. -/
def fnAnyPortCountAndOpaqueSisterSpec : ChangeSpec := { name := "fnAnyPortCountAndOpaqueSister", fn := fun _ => fun
  | [d1, d2] => { results := [.lit (.bool true)], args := [d1, d2] }
  | _ => none }
def fnAnyPortCountAndOpaqueSisterRow : OpenClaim := { program := "qxb6615889a", sum := "aa5a617119ab4f35263aa7cc36b05002474c084d0c0a6cb3978a2d4840667e09", func := "example.com/parley/parley/zzlaws_internal_ike_b1.FnAnyPortCountAndOpaqueSister", spec := "fnAnyPortCountAndOpaqueSister", apart := false }
def FnAnyPortCountAndOpaqueSisterSaid : Prop := fnAnyPortCountAndOpaqueSisterRow.holds Try.pinned (OpenSpec.ofChange fnAnyPortCountAndOpaqueSisterSpec)

/-- ITS FALSE NEIGHBOUR: 'it returns false'. Refute it at one input. -/
def fnAnyPortCountAndOpaqueSisterWrong : ChangeSpec := { name := "fnAnyPortCountAndOpaqueSister", fn := fun _ => fun
  | [d1, d2] => { results := [.lit (.bool false)], args := [d1, d2] }
  | _ => none }
def FnAnyPortCountAndOpaqueSisterWrongFalsely : Prop := fnAnyPortCountAndOpaqueSisterRow.holds Try.pinned (OpenSpec.ofChange fnAnyPortCountAndOpaqueSisterWrong)

end Rows
end Go.Proofs.Qxb6615889a
