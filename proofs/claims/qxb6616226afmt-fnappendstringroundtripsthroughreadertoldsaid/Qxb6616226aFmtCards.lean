/-
  DERIVED. GIVEN WITH THE SEED: THE CARDS: each row of Qxb6616226aFmtRows.lean that lists a variable, with what it lists TIED to the program's text (the seventh form; the later family's looks); each row that meets fmt, with fmt's text TOLD by the authors' own Lean function (tested against real Go, not proved from fmt's source: count such statements apart). THE CARD IS WHAT COUNTS. Prove the row's statement (the work); the ties are given (Qxb6616226aFmtTie.lean); close each card by the builder's one call (the guide's Derived/Test/ToyasCard.lean, 'card_holds'). Laid BY PROGRAM, IN A SANDBOX (cutbox-door.mjs). By AI agents, Wed Nov 11 2026. No macro, syntax, notation, axiom, sorry.
-/
import Derived.Test.Qxb6616226aFmtRows
import GoSem.ClaimSeven
namespace Go.Proofs.Qxb6616226aFmt
namespace Rows

/-- THE TOLD AND TIED CARD OF 'zzlaws_internal_codec_b1.FnAppendStringRoundTripsThroughReader'. -/
def fnAppendStringRoundTripsThroughReaderCard : Claim7 := { stood := { row := fnAppendStringRoundTripsThroughReaderRow, standIns := [], harness := (true, "afab4c7a5991b6d9a8aa47aeaaf1360b27e91e76c5c30e48f8ff38c4531f5fee"), looks := false }, told := true, laidByText := true, laidKinds := [.sentinel], laidTests := true, laidLooks := .later, goes := false }
def FnAppendStringRoundTripsThroughReaderToldSaid : Prop := Claim7.holds Tryf.pinned (.plain (OpenSpec.ofChange fnAppendStringRoundTripsThroughReaderSpec)) fnAppendStringRoundTripsThroughReaderCard
/-- ITS FALSE NEIGHBOUR. Refute it at one input. -/
def FnAppendStringRoundTripsThroughReaderToldWrongFalsely : Prop := Claim7.holds Tryf.pinned (.plain (OpenSpec.ofChange fnAppendStringRoundTripsThroughReaderWrong)) fnAppendStringRoundTripsThroughReaderCard

/-- THE TOLD AND TIED CARD OF 'zzlaws_internal_codec_b1.FnEndAfterOneUvarintTellsExactFit'. -/
def fnEndAfterOneUvarintTellsExactFitCard : Claim7 := { stood := { row := fnEndAfterOneUvarintTellsExactFitRow, standIns := [], harness := (true, "afab4c7a5991b6d9a8aa47aeaaf1360b27e91e76c5c30e48f8ff38c4531f5fee"), looks := false }, told := true, laidByText := true, laidKinds := [.sentinel], laidTests := true, laidLooks := .later, goes := false }
def FnEndAfterOneUvarintTellsExactFitToldSaid : Prop := Claim7.holds Tryf.pinned (.plain (OpenSpec.ofChange fnEndAfterOneUvarintTellsExactFitSpec)) fnEndAfterOneUvarintTellsExactFitCard
/-- ITS FALSE NEIGHBOUR. Refute it at one input. -/
def FnEndAfterOneUvarintTellsExactFitToldWrongFalsely : Prop := Claim7.holds Tryf.pinned (.plain (OpenSpec.ofChange fnEndAfterOneUvarintTellsExactFitWrong)) fnEndAfterOneUvarintTellsExactFitCard
end Rows
end Go.Proofs.Qxb6616226aFmt
