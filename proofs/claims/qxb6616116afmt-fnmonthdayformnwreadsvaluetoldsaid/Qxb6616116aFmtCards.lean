/-
  DERIVED. GIVEN WITH THE SEED: THE CARDS: each row of Qxb6616116aFmtRows.lean that lists a variable, with what it lists TIED to the program's text (the seventh form; the later family's looks); each row that meets fmt, with fmt's text TOLD by the authors' own Lean function (tested against real Go, not proved from fmt's source: count such statements apart). THE CARD IS WHAT COUNTS. Prove the row's statement (the work); the ties are given (Qxb6616116aFmtTie.lean); close each card by the builder's one call (the guide's Derived/Test/ToyasCard.lean, 'card_holds'). Laid BY PROGRAM, IN A SANDBOX (cutbox-door.mjs). By AI agents, Wed Nov 11 2026. No macro, syntax, notation, axiom, sorry.
-/
import Derived.Test.Qxb6616116aFmtRows
import GoSem.ClaimSeven
namespace Go.Proofs.Qxb6616116aFmt
namespace Rows

/-- THE TOLD CARD OF 'zzlaws_root_b1.FnMonthDayFormSpec'. -/
def fnMonthDayFormSpecCard : Claim7 := { stood := { row := fnMonthDayFormSpecRow, standIns := [], harness := (true, "1aeebff5681b88c521ff61ff8af6848897004cbdbf85cdc1ca7530ae8ea4b48c"), looks := false }, told := true, goes := false }
def FnMonthDayFormSpecToldSaid : Prop := Claim7.holds Tryf.pinned (.plain (OpenSpec.ofChange fnMonthDayFormSpecSpec)) fnMonthDayFormSpecCard
/-- ITS FALSE NEIGHBOUR. Refute it at one input. -/
def FnMonthDayFormSpecToldWrongFalsely : Prop := Claim7.holds Tryf.pinned (.plain (OpenSpec.ofChange fnMonthDayFormSpecWrong)) fnMonthDayFormSpecCard

/-- THE TOLD CARD OF 'zzlaws_root_b1.FnMonthDayFormNWReadsValue'. -/
def fnMonthDayFormNWReadsValueCard : Claim7 := { stood := { row := fnMonthDayFormNWReadsValueRow, standIns := [], harness := (true, "1aeebff5681b88c521ff61ff8af6848897004cbdbf85cdc1ca7530ae8ea4b48c"), looks := false }, told := true, goes := false }
def FnMonthDayFormNWReadsValueToldSaid : Prop := Claim7.holds Tryf.pinned (.plain (OpenSpec.ofChange fnMonthDayFormNWReadsValueSpec)) fnMonthDayFormNWReadsValueCard
/-- ITS FALSE NEIGHBOUR. Refute it at one input. -/
def FnMonthDayFormNWReadsValueToldWrongFalsely : Prop := Claim7.holds Tryf.pinned (.plain (OpenSpec.ofChange fnMonthDayFormNWReadsValueWrong)) fnMonthDayFormNWReadsValueCard
end Rows
end Go.Proofs.Qxb6616116aFmt
