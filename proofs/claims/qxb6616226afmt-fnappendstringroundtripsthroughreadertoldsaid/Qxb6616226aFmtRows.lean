/-
  NARROWER THAN 'FOR EVERY INPUT', by the rows' own cells (each row's printed sentence says how): FnAppendStringRoundTripsThroughReader: ifaces, laid · FnEndAfterOneUvarintTellsExactFit: ifaces, laid.
  DERIVED. THE GIVEN ROWS OF THIS SEAT. 2 by the template 'for every input the law returns true; each argument reads behind the call as it read before'; 0 by the template 'total and deterministic' (their statements: Qxb6616226aFmtTotals.lean).
  GIVEN WITH THE SEED: the statements are not yours to turn. If you find one false, say at which input.
  Laid BY PROGRAM, IN A SANDBOX (cutbox-rows.mjs): the forced cells as the released guide's own fill.sh prints them over the translation b26354cbb7b53819… (all of the seat's roots in one cut). By AI agents, Wed Nov 11 2026. No macro, syntax, notation, axiom, sorry.
-/
import Derived.Test.Qxb6616226aFmtChecked
import GoSem.Claim
import GoSem.ClaimJoined
import GoSem.ClaimMapViews
import Derived.JoinedTies
import Derived.KernelRfl
namespace Go.Proofs.Qxb6616226aFmt
/- THE CELL 'sum', in the pinned program and in every row, IS THE sha256 OF THE DUMP (.gsa) THAT Qxb6616226aFmtProg.lean LOADS. Nothing in Lean hashes anything: it is a label: what it is worth is what the hold of that sum in a sandbox is worth. -/
noncomputable def Tryf.pinned : Pinned := { name := "qxb6616226afmt", sum := "b26354cbb7b538197511372bb6b099bad9b588df23b750c5a08a791f0fb42fd2", checked := Tryf.checked }
namespace Rows
def none {H : Type} : Left H := { results := [], args := [] }

/- WHAT THE LISTED PACKAGE-LEVEL VARIABLES READ AS WHEN THE CALL BEGINS. Each datum BY PROGRAM (the guide's laid-datum.mjs) off the statement by which the dump's own 'gosem.cut.vars' lays the variable. In a bare row this is a premise. The card (Qxb6616226aFmtCards.lean) ties it to the program's text. -/
def laid_example_com_epochkeeper_epochkeeper_internal_codec_ErrShort {H : Type} : DataW H := .iface "*errors.errorString" (.ptr (.agg [.lit (.string [105, 116, 32, 101, 110, 100, 115, 32, 116, 111, 111, 32, 115, 111, 111, 110])]))

/-- 'zzlaws_internal_codec_b1.FnAppendStringRoundTripsThroughReader': WHATEVER THE INPUT: true; the input reads as it did. -/
def fnAppendStringRoundTripsThroughReaderSpec : ChangeSpec := { name := "fnAppendStringRoundTripsThroughReader", vars := ["example.com/epochkeeper/epochkeeper/internal/codec.ErrShort"], fn := fun _ => fun
  | [d1, d2, g1] => { results := [.lit (.bool true)], args := [d1, d2], vars := [g1] }
  | _ => none }
def fnAppendStringRoundTripsThroughReaderRow : OpenClaim := { program := "qxb6616226afmt", sum := "b26354cbb7b538197511372bb6b099bad9b588df23b750c5a08a791f0fb42fd2", func := "example.com/epochkeeper/epochkeeper/zzlaws_internal_codec_b1.FnAppendStringRoundTripsThroughReader", spec := "fnAppendStringRoundTripsThroughReader", stops := ["fmt.errorf"], inPlace := ["fmt.errorf"], unfollowed := true, recurses := true, named := ["example.com/epochkeeper/epochkeeper/internal/codec.ErrShort"], ifaces := true, apart := false, laid := [("example.com/epochkeeper/epochkeeper/internal/codec.ErrShort", laid_example_com_epochkeeper_epochkeeper_internal_codec_ErrShort)] }
/-- NO THEOREM (fmt's text is open here; it may be false): for the released tool's asking of the row's closed facts alone. THE STATEMENT IS 'FnAppendStringRoundTripsThroughReaderToldSaid' (Qxb6616226aFmtCards.lean). -/
def FnAppendStringRoundTripsThroughReaderFormAsk : Prop := fnAppendStringRoundTripsThroughReaderRow.holds Tryf.pinned (OpenSpec.ofChange fnAppendStringRoundTripsThroughReaderSpec)

/-- ITS FALSE NEIGHBOUR: 'it returns false'. Refute it at one input. -/
def fnAppendStringRoundTripsThroughReaderWrong : ChangeSpec := { name := "fnAppendStringRoundTripsThroughReader", vars := ["example.com/epochkeeper/epochkeeper/internal/codec.ErrShort"], fn := fun _ => fun
  | [d1, d2, g1] => { results := [.lit (.bool false)], args := [d1, d2], vars := [g1] }
  | _ => none }
def FnAppendStringRoundTripsThroughReaderWrongFormAsk : Prop := fnAppendStringRoundTripsThroughReaderRow.holds Tryf.pinned (OpenSpec.ofChange fnAppendStringRoundTripsThroughReaderWrong)

/-- 'zzlaws_internal_codec_b1.FnEndAfterOneUvarintTellsExactFit': WHATEVER THE INPUT: true; the input reads as it did. -/
def fnEndAfterOneUvarintTellsExactFitSpec : ChangeSpec := { name := "fnEndAfterOneUvarintTellsExactFit", vars := ["example.com/epochkeeper/epochkeeper/internal/codec.ErrShort"], fn := fun _ => fun
  | [d, g1] => { results := [.lit (.bool true)], args := [d], vars := [g1] }
  | _ => none }
def fnEndAfterOneUvarintTellsExactFitRow : OpenClaim := { program := "qxb6616226afmt", sum := "b26354cbb7b538197511372bb6b099bad9b588df23b750c5a08a791f0fb42fd2", func := "example.com/epochkeeper/epochkeeper/zzlaws_internal_codec_b1.FnEndAfterOneUvarintTellsExactFit", spec := "fnEndAfterOneUvarintTellsExactFit", stops := ["fmt.errorf"], inPlace := ["fmt.errorf"], unfollowed := true, recurses := true, named := ["example.com/epochkeeper/epochkeeper/internal/codec.ErrShort"], ifaces := true, apart := false, laid := [("example.com/epochkeeper/epochkeeper/internal/codec.ErrShort", laid_example_com_epochkeeper_epochkeeper_internal_codec_ErrShort)] }
/-- NO THEOREM (fmt's text is open here; it may be false): for the released tool's asking of the row's closed facts alone. THE STATEMENT IS 'FnEndAfterOneUvarintTellsExactFitToldSaid' (Qxb6616226aFmtCards.lean). -/
def FnEndAfterOneUvarintTellsExactFitFormAsk : Prop := fnEndAfterOneUvarintTellsExactFitRow.holds Tryf.pinned (OpenSpec.ofChange fnEndAfterOneUvarintTellsExactFitSpec)

/-- ITS FALSE NEIGHBOUR: 'it returns false'. Refute it at one input. -/
def fnEndAfterOneUvarintTellsExactFitWrong : ChangeSpec := { name := "fnEndAfterOneUvarintTellsExactFit", vars := ["example.com/epochkeeper/epochkeeper/internal/codec.ErrShort"], fn := fun _ => fun
  | [d, g1] => { results := [.lit (.bool false)], args := [d], vars := [g1] }
  | _ => none }
def FnEndAfterOneUvarintTellsExactFitWrongFormAsk : Prop := fnEndAfterOneUvarintTellsExactFitRow.holds Tryf.pinned (OpenSpec.ofChange fnEndAfterOneUvarintTellsExactFitWrong)

end Rows
end Go.Proofs.Qxb6616226aFmt
