/-
  No cell of these rows narrows 'for every input' (looked for: loops, veiled, ifaces, maps, wideKeys, modest, calm, conditions, laid).
  DERIVED. THE GIVEN ROWS OF THIS SEAT. 2 by the template 'for every input the law returns true; each argument reads behind the call as it read before'; 0 by the template 'total and deterministic' (their statements: Qxb6625998aTotals.lean).
  GIVEN WITH THE SEED: the statements are not yours to turn. If you find one false, say at which input.
  Laid BY PROGRAM, IN A SANDBOX (cutbox-rows.mjs): the forced cells as the released guide's own fill.sh prints them over the translation b2f5f6957d66f934… (all of the seat's roots in one cut). By AI agents, Wed Nov 11 2026. No macro, syntax, notation, axiom, sorry.
-/
import Derived.Test.Qxb6625998aChecked
import GoSem.Claim
import GoSem.ClaimJoined
import GoSem.ClaimMapViews
import Derived.JoinedTies
import Derived.KernelRfl
namespace Go.Proofs.Qxb6625998a
/- THE CELL 'sum', in the pinned program and in every row, IS THE sha256 OF THE DUMP (.gsa) THAT Qxb6625998aProg.lean LOADS. Nothing in Lean hashes anything: it is a label: what it is worth is what the hold of that sum in a sandbox is worth. -/
noncomputable def Try.pinned : Pinned := { name := "qxb6625998a", sum := "b2f5f6957d66f93402055688018e28406e57652aef2e106d669b5498800f4521", checked := Try.checked }
namespace Rows
def none {H : Type} : Left H := { results := [], args := [] }

/-- 'zzlaws_pkg_quantity_b1.FnCutSignSplitsAndSurvivesAppending': WHATEVER THE INPUT: true; the input reads as it did. -/
def fnCutSignSplitsAndSurvivesAppendingSpec : ChangeSpec := { name := "fnCutSignSplitsAndSurvivesAppending", fn := fun _ => fun
  | [d1, d2] => { results := [.lit (.bool true)], args := [d1, d2] }
  | _ => none }
def fnCutSignSplitsAndSurvivesAppendingRow : OpenClaim := { program := "qxb6625998a", sum := "b2f5f6957d66f93402055688018e28406e57652aef2e106d669b5498800f4521", func := "example.com/allotment/allotment/zzlaws_pkg_quantity_b1.FnCutSignSplitsAndSurvivesAppending", spec := "fnCutSignSplitsAndSurvivesAppending", apart := false }
def FnCutSignSplitsAndSurvivesAppendingSaid : Prop := fnCutSignSplitsAndSurvivesAppendingRow.holds Try.pinned (OpenSpec.ofChange fnCutSignSplitsAndSurvivesAppendingSpec)

/-- ITS FALSE NEIGHBOUR: 'it returns false'. Refute it at one input. -/
def fnCutSignSplitsAndSurvivesAppendingWrong : ChangeSpec := { name := "fnCutSignSplitsAndSurvivesAppending", fn := fun _ => fun
  | [d1, d2] => { results := [.lit (.bool false)], args := [d1, d2] }
  | _ => none }
def FnCutSignSplitsAndSurvivesAppendingWrongFalsely : Prop := fnCutSignSplitsAndSurvivesAppendingRow.holds Try.pinned (OpenSpec.ofChange fnCutSignSplitsAndSurvivesAppendingWrong)

/-- 'zzlaws_pkg_quantity_b1.FnCutSignTakesOffAnAddedSign': WHATEVER THE INPUT: true; the input reads as it did. -/
def fnCutSignTakesOffAnAddedSignSpec : ChangeSpec := { name := "fnCutSignTakesOffAnAddedSign", fn := fun _ => fun
  | [d1, d2] => { results := [.lit (.bool true)], args := [d1, d2] }
  | _ => none }
def fnCutSignTakesOffAnAddedSignRow : OpenClaim := { program := "qxb6625998a", sum := "b2f5f6957d66f93402055688018e28406e57652aef2e106d669b5498800f4521", func := "example.com/allotment/allotment/zzlaws_pkg_quantity_b1.FnCutSignTakesOffAnAddedSign", spec := "fnCutSignTakesOffAnAddedSign", apart := false }
def FnCutSignTakesOffAnAddedSignSaid : Prop := fnCutSignTakesOffAnAddedSignRow.holds Try.pinned (OpenSpec.ofChange fnCutSignTakesOffAnAddedSignSpec)

/-- ITS FALSE NEIGHBOUR: 'it returns false'. Refute it at one input. -/
def fnCutSignTakesOffAnAddedSignWrong : ChangeSpec := { name := "fnCutSignTakesOffAnAddedSign", fn := fun _ => fun
  | [d1, d2] => { results := [.lit (.bool false)], args := [d1, d2] }
  | _ => none }
def FnCutSignTakesOffAnAddedSignWrongFalsely : Prop := fnCutSignTakesOffAnAddedSignRow.holds Try.pinned (OpenSpec.ofChange fnCutSignTakesOffAnAddedSignWrong)

end Rows
end Go.Proofs.Qxb6625998a
