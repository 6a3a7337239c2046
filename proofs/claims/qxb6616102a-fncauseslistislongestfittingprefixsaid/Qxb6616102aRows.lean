/-
  No cell of these rows narrows 'for every input' (looked for: loops, veiled, ifaces, maps, wideKeys, modest, calm, conditions, laid).
  DERIVED. THE GIVEN ROWS OF THIS SEAT. 2 by the template 'for every input the law returns true; each argument reads behind the call as it read before'; 0 by the template 'total and deterministic' (their statements: Qxb6616102aTotals.lean).
  GIVEN WITH THE SEED: the statements are not yours to turn. If you find one false, say at which input.
  Laid BY PROGRAM, IN A SANDBOX (cutbox-rows.mjs): the forced cells as the released guide's own fill.sh prints them over the translation e767c72ede2dca8d… (all of the seat's roots in one cut). By AI agents, Wed Nov 11 2026. No macro, syntax, notation, axiom, sorry.
-/
import Derived.Test.Qxb6616102aChecked
import GoSem.Claim
import GoSem.ClaimJoined
import GoSem.ClaimMapViews
import Derived.JoinedTies
import Derived.KernelRfl
namespace Go.Proofs.Qxb6616102a
/- THE CELL 'sum', in the pinned program and in every row, IS THE sha256 OF THE DUMP (.gsa) THAT Qxb6616102aProg.lean LOADS. Nothing in Lean hashes anything: it is a label: what it is worth is what the hold of that sum in a sandbox is worth. -/
noncomputable def Try.pinned : Pinned := { name := "qxb6616102a", sum := "e767c72ede2dca8d33b78ef0dc264b0ec756e08caae537bade1838bfe4aee1cb", checked := Try.checked }
namespace Rows
def none {H : Type} : Left H := { results := [], args := [] }

/-- 'zzlaws_internal_meta_b1.FnCausesListIsLongestFittingPrefix': WHATEVER THE INPUT: true; the input reads as it did. -/
def fnCausesListIsLongestFittingPrefixSpec : ChangeSpec := { name := "fnCausesListIsLongestFittingPrefix", fn := fun _ => fun
  | [d] => { results := [.lit (.bool true)], args := [d] }
  | _ => none }
def fnCausesListIsLongestFittingPrefixRow : OpenClaim := { program := "qxb6616102a", sum := "e767c72ede2dca8d33b78ef0dc264b0ec756e08caae537bade1838bfe4aee1cb", func := "example.com/registrar/registrar/zzlaws_internal_meta_b1.FnCausesListIsLongestFittingPrefix", spec := "fnCausesListIsLongestFittingPrefix", apart := false }
def FnCausesListIsLongestFittingPrefixSaid : Prop := fnCausesListIsLongestFittingPrefixRow.holds Try.pinned (OpenSpec.ofChange fnCausesListIsLongestFittingPrefixSpec)

/-- ITS FALSE NEIGHBOUR: 'it returns false'. Refute it at one input. -/
def fnCausesListIsLongestFittingPrefixWrong : ChangeSpec := { name := "fnCausesListIsLongestFittingPrefix", fn := fun _ => fun
  | [d] => { results := [.lit (.bool false)], args := [d] }
  | _ => none }
def FnCausesListIsLongestFittingPrefixWrongFalsely : Prop := fnCausesListIsLongestFittingPrefixRow.holds Try.pinned (OpenSpec.ofChange fnCausesListIsLongestFittingPrefixWrong)

/-- 'zzlaws_internal_meta_b1.FnCausesListAcrossAnyCut': WHATEVER THE INPUT: true; the input reads as it did. -/
def fnCausesListAcrossAnyCutSpec : ChangeSpec := { name := "fnCausesListAcrossAnyCut", fn := fun _ => fun
  | [d1, d2] => { results := [.lit (.bool true)], args := [d1, d2] }
  | _ => none }
def fnCausesListAcrossAnyCutRow : OpenClaim := { program := "qxb6616102a", sum := "e767c72ede2dca8d33b78ef0dc264b0ec756e08caae537bade1838bfe4aee1cb", func := "example.com/registrar/registrar/zzlaws_internal_meta_b1.FnCausesListAcrossAnyCut", spec := "fnCausesListAcrossAnyCut", apart := false }
def FnCausesListAcrossAnyCutSaid : Prop := fnCausesListAcrossAnyCutRow.holds Try.pinned (OpenSpec.ofChange fnCausesListAcrossAnyCutSpec)

/-- ITS FALSE NEIGHBOUR: 'it returns false'. Refute it at one input. -/
def fnCausesListAcrossAnyCutWrong : ChangeSpec := { name := "fnCausesListAcrossAnyCut", fn := fun _ => fun
  | [d1, d2] => { results := [.lit (.bool false)], args := [d1, d2] }
  | _ => none }
def FnCausesListAcrossAnyCutWrongFalsely : Prop := fnCausesListAcrossAnyCutRow.holds Try.pinned (OpenSpec.ofChange fnCausesListAcrossAnyCutWrong)

end Rows
end Go.Proofs.Qxb6616102a
