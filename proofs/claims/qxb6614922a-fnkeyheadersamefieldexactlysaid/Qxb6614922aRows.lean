/-
  No cell of these rows narrows 'for every input' (looked for: loops, veiled, ifaces, maps, wideKeys, modest, calm, conditions, laid).
  DERIVED. THE GIVEN ROWS OF THIS SEAT. 2 by the template 'for every input the law returns true; each argument reads behind the call as it read before'; 0 by the template 'total and deterministic' (their statements: Qxb6614922aTotals.lean).
  GIVEN WITH THE SEED: the statements are not yours to turn. If you find one false, say at which input.
  Laid BY PROGRAM, IN A SANDBOX (cutbox-rows.mjs): the forced cells as the released guide's own fill.sh prints them over the translation 8092dccd34a5de00… (all of the seat's roots in one cut). By AI agents, Wed Nov 11 2026. No macro, syntax, notation, axiom, sorry.
-/
import Derived.Test.Qxb6614922aChecked
import GoSem.Claim
import GoSem.ClaimJoined
import GoSem.ClaimMapViews
import Derived.JoinedTies
import Derived.KernelRfl
namespace Go.Proofs.Qxb6614922a
/- THE CELL 'sum', in the pinned program and in every row, IS THE sha256 OF THE DUMP (.gsa) THAT Qxb6614922aProg.lean LOADS. Nothing in Lean hashes anything: it is a label: what it is worth is what the hold of that sum in a sandbox is worth. -/
noncomputable def Try.pinned : Pinned := { name := "qxb6614922a", sum := "8092dccd34a5de00ce16d1b7d6f0ad452ff57540de849be298b7fd0dd2985325", checked := Try.checked }
namespace Rows
def none {H : Type} : Left H := { results := [], args := [] }

/-- 'zzlaws_root_b1.FnKeyHeaderSettled': WHATEVER THE INPUT: true; the input reads as it did. -/
def fnKeyHeaderSettledSpec : ChangeSpec := { name := "fnKeyHeaderSettled", fn := fun _ => fun
  | [d] => { results := [.lit (.bool true)], args := [d] }
  | _ => none }
def fnKeyHeaderSettledRow : OpenClaim := { program := "qxb6614922a", sum := "8092dccd34a5de00ce16d1b7d6f0ad452ff57540de849be298b7fd0dd2985325", func := "example.com/latchkey/latchkey/zzlaws_root_b1.FnKeyHeaderSettled", spec := "fnKeyHeaderSettled", apart := false }
def FnKeyHeaderSettledSaid : Prop := fnKeyHeaderSettledRow.holds Try.pinned (OpenSpec.ofChange fnKeyHeaderSettledSpec)

/-- ITS FALSE NEIGHBOUR: 'it returns false'. Refute it at one input. -/
def fnKeyHeaderSettledWrong : ChangeSpec := { name := "fnKeyHeaderSettled", fn := fun _ => fun
  | [d] => { results := [.lit (.bool false)], args := [d] }
  | _ => none }
def FnKeyHeaderSettledWrongFalsely : Prop := fnKeyHeaderSettledRow.holds Try.pinned (OpenSpec.ofChange fnKeyHeaderSettledWrong)

/-- 'zzlaws_root_b1.FnKeyHeaderSameFieldExactly': WHATEVER THE INPUT: true; the input reads as it did. -/
def fnKeyHeaderSameFieldExactlySpec : ChangeSpec := { name := "fnKeyHeaderSameFieldExactly", fn := fun _ => fun
  | [d1, d2] => { results := [.lit (.bool true)], args := [d1, d2] }
  | _ => none }
def fnKeyHeaderSameFieldExactlyRow : OpenClaim := { program := "qxb6614922a", sum := "8092dccd34a5de00ce16d1b7d6f0ad452ff57540de849be298b7fd0dd2985325", func := "example.com/latchkey/latchkey/zzlaws_root_b1.FnKeyHeaderSameFieldExactly", spec := "fnKeyHeaderSameFieldExactly", apart := false }
def FnKeyHeaderSameFieldExactlySaid : Prop := fnKeyHeaderSameFieldExactlyRow.holds Try.pinned (OpenSpec.ofChange fnKeyHeaderSameFieldExactlySpec)

/-- ITS FALSE NEIGHBOUR: 'it returns false'. Refute it at one input. -/
def fnKeyHeaderSameFieldExactlyWrong : ChangeSpec := { name := "fnKeyHeaderSameFieldExactly", fn := fun _ => fun
  | [d1, d2] => { results := [.lit (.bool false)], args := [d1, d2] }
  | _ => none }
def FnKeyHeaderSameFieldExactlyWrongFalsely : Prop := fnKeyHeaderSameFieldExactlyRow.holds Try.pinned (OpenSpec.ofChange fnKeyHeaderSameFieldExactlyWrong)

end Rows
end Go.Proofs.Qxb6614922a
