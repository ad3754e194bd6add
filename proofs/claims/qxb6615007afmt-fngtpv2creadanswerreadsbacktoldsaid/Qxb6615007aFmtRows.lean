/-
  No cell of these rows narrows 'for every input' (looked for: loops, veiled, ifaces, maps, wideKeys, modest, calm, conditions, laid).
  DERIVED. THE GIVEN ROWS OF THIS SEAT. 2 by the template 'for every input the law returns true; each argument reads behind the call as it read before'; 0 by the template 'total and deterministic' (their statements: Qxb6615007aFmtTotals.lean).
  GIVEN WITH THE SEED: the statements are not yours to turn. If you find one false, say at which input.
  Laid BY PROGRAM, IN A SANDBOX (cutbox-rows.mjs): the forced cells as the released guide's own fill.sh prints them over the translation 4238b6b79f5fa2cd… (all of the seat's roots in one cut). By AI agents, Wed Nov 11 2026. No macro, syntax, notation, axiom, sorry.
-/
import Derived.Test.Qxb6615007aFmtChecked
import GoSem.Claim
import GoSem.ClaimJoined
import GoSem.ClaimMapViews
import Derived.JoinedTies
import Derived.KernelRfl
namespace Go.Proofs.Qxb6615007aFmt
/- THE CELL 'sum', in the pinned program and in every row, IS THE sha256 OF THE DUMP (.gsa) THAT Qxb6615007aFmtProg.lean LOADS. Nothing in Lean hashes anything: it is a label: what it is worth is what the hold of that sum in a sandbox is worth. -/
noncomputable def Tryf.pinned : Pinned := { name := "qxb6615007afmt", sum := "4238b6b79f5fa2cd42668b5f721f743a1ca9180164f5f78cd9f13dabd01aa888", checked := Tryf.checked }
namespace Rows
def none {H : Type} : Left H := { results := [], args := [] }

/-- 'zzlaws_root_b1.FnGtpv2cReadAnswerReadsBack': WHATEVER THE INPUT: true; the input reads as it did. -/
def fnGtpv2cReadAnswerReadsBackSpec : ChangeSpec := { name := "fnGtpv2cReadAnswerReadsBack", fn := fun _ => fun
  | [d1, d2, d3] => { results := [.lit (.bool true)], args := [d1, d2, d3] }
  | _ => none }
def fnGtpv2cReadAnswerReadsBackRow : OpenClaim := { program := "qxb6615007afmt", sum := "4238b6b79f5fa2cd42668b5f721f743a1ca9180164f5f78cd9f13dabd01aa888", func := "example.com/pathwarden/pathwarden/zzlaws_root_b1.FnGtpv2cReadAnswerReadsBack", spec := "fnGtpv2cReadAnswerReadsBack", stops := ["fmt.errorf"], inPlace := ["fmt.errorf"], unfollowed := true, recurses := true, named := ["encoding/binary.BigEndian"], apart := false }
/-- NO THEOREM (fmt's text is open here; it may be false): for the released tool's asking of the row's closed facts alone. THE STATEMENT IS 'FnGtpv2cReadAnswerReadsBackToldSaid' (Qxb6615007aFmtCards.lean). -/
def FnGtpv2cReadAnswerReadsBackFormAsk : Prop := fnGtpv2cReadAnswerReadsBackRow.holds Tryf.pinned (OpenSpec.ofChange fnGtpv2cReadAnswerReadsBackSpec)

/-- ITS FALSE NEIGHBOUR: 'it returns false'. Refute it at one input. -/
def fnGtpv2cReadAnswerReadsBackWrong : ChangeSpec := { name := "fnGtpv2cReadAnswerReadsBack", fn := fun _ => fun
  | [d1, d2, d3] => { results := [.lit (.bool false)], args := [d1, d2, d3] }
  | _ => none }
def FnGtpv2cReadAnswerReadsBackWrongFormAsk : Prop := fnGtpv2cReadAnswerReadsBackRow.holds Tryf.pinned (OpenSpec.ofChange fnGtpv2cReadAnswerReadsBackWrong)

/-- 'zzlaws_root_b1.FnUnsupportedGTPVersionAgreesWithRead': WHATEVER THE INPUT: true; the input reads as it did. -/
def fnUnsupportedGTPVersionAgreesWithReadSpec : ChangeSpec := { name := "fnUnsupportedGTPVersionAgreesWithRead", fn := fun _ => fun
  | [d1, d2] => { results := [.lit (.bool true)], args := [d1, d2] }
  | _ => none }
def fnUnsupportedGTPVersionAgreesWithReadRow : OpenClaim := { program := "qxb6615007afmt", sum := "4238b6b79f5fa2cd42668b5f721f743a1ca9180164f5f78cd9f13dabd01aa888", func := "example.com/pathwarden/pathwarden/zzlaws_root_b1.FnUnsupportedGTPVersionAgreesWithRead", spec := "fnUnsupportedGTPVersionAgreesWithRead", stops := ["fmt.errorf"], inPlace := ["fmt.errorf"], unfollowed := true, recurses := true, named := ["encoding/binary.BigEndian"], apart := false }
/-- NO THEOREM (fmt's text is open here; it may be false): for the released tool's asking of the row's closed facts alone. THE STATEMENT IS 'FnUnsupportedGTPVersionAgreesWithReadToldSaid' (Qxb6615007aFmtCards.lean). -/
def FnUnsupportedGTPVersionAgreesWithReadFormAsk : Prop := fnUnsupportedGTPVersionAgreesWithReadRow.holds Tryf.pinned (OpenSpec.ofChange fnUnsupportedGTPVersionAgreesWithReadSpec)

/-- ITS FALSE NEIGHBOUR: 'it returns false'. Refute it at one input. -/
def fnUnsupportedGTPVersionAgreesWithReadWrong : ChangeSpec := { name := "fnUnsupportedGTPVersionAgreesWithRead", fn := fun _ => fun
  | [d1, d2] => { results := [.lit (.bool false)], args := [d1, d2] }
  | _ => none }
def FnUnsupportedGTPVersionAgreesWithReadWrongFormAsk : Prop := fnUnsupportedGTPVersionAgreesWithReadRow.holds Tryf.pinned (OpenSpec.ofChange fnUnsupportedGTPVersionAgreesWithReadWrong)

end Rows
end Go.Proofs.Qxb6615007aFmt
