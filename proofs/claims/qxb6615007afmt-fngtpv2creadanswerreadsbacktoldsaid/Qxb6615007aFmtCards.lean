/-
  DERIVED. GIVEN WITH THE SEED: THE CARDS: each row of Qxb6615007aFmtRows.lean that lists a variable, with what it lists TIED to the program's text (the seventh form; the later family's looks); each row that meets fmt, with fmt's text TOLD by the authors' own Lean function (tested against real Go, not proved from fmt's source: count such statements apart). THE CARD IS WHAT COUNTS. Prove the row's statement (the work); the ties are given (Qxb6615007aFmtTie.lean); close each card by the builder's one call (the guide's Derived/Test/ToyasCard.lean, 'card_holds'). Laid BY PROGRAM, IN A SANDBOX (cutbox-door.mjs). By AI agents, Wed Nov 11 2026. No macro, syntax, notation, axiom, sorry.
-/
import Derived.Test.Qxb6615007aFmtRows
import GoSem.ClaimSeven
namespace Go.Proofs.Qxb6615007aFmt
namespace Rows

/-- THE TOLD CARD OF 'zzlaws_root_b1.FnGtpv2cReadAnswerReadsBack'. -/
def fnGtpv2cReadAnswerReadsBackCard : Claim7 := { stood := { row := fnGtpv2cReadAnswerReadsBackRow, standIns := [], harness := (true, "51fff271842ca5ebd425631f80835c2315cea708e3154b66e1ad3b9dff02be37"), looks := true }, told := true, goes := false }
def FnGtpv2cReadAnswerReadsBackToldSaid : Prop := Claim7.holds Tryf.pinned (.plain (OpenSpec.ofChange fnGtpv2cReadAnswerReadsBackSpec)) fnGtpv2cReadAnswerReadsBackCard
/-- ITS FALSE NEIGHBOUR. Refute it at one input. -/
def FnGtpv2cReadAnswerReadsBackToldWrongFalsely : Prop := Claim7.holds Tryf.pinned (.plain (OpenSpec.ofChange fnGtpv2cReadAnswerReadsBackWrong)) fnGtpv2cReadAnswerReadsBackCard

/-- THE TOLD CARD OF 'zzlaws_root_b1.FnUnsupportedGTPVersionAgreesWithRead'. -/
def fnUnsupportedGTPVersionAgreesWithReadCard : Claim7 := { stood := { row := fnUnsupportedGTPVersionAgreesWithReadRow, standIns := [], harness := (true, "51fff271842ca5ebd425631f80835c2315cea708e3154b66e1ad3b9dff02be37"), looks := true }, told := true, goes := false }
def FnUnsupportedGTPVersionAgreesWithReadToldSaid : Prop := Claim7.holds Tryf.pinned (.plain (OpenSpec.ofChange fnUnsupportedGTPVersionAgreesWithReadSpec)) fnUnsupportedGTPVersionAgreesWithReadCard
/-- ITS FALSE NEIGHBOUR. Refute it at one input. -/
def FnUnsupportedGTPVersionAgreesWithReadToldWrongFalsely : Prop := Claim7.holds Tryf.pinned (.plain (OpenSpec.ofChange fnUnsupportedGTPVersionAgreesWithReadWrong)) fnUnsupportedGTPVersionAgreesWithReadCard
end Rows
end Go.Proofs.Qxb6615007aFmt
