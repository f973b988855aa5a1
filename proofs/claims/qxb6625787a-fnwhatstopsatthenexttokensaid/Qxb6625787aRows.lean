/-
  No cell of these rows narrows 'for every input' (looked for: loops, veiled, ifaces, maps, wideKeys, modest, calm, conditions, laid).
  DERIVED. THE GIVEN ROWS OF THIS SEAT. 1 by the template 'for every input the law returns true; each argument reads behind the call as it read before'; 0 by the template 'total and deterministic' (their statements: Qxb6625787aTotals.lean).
  GIVEN WITH THE SEED: the statements are not yours to turn. If you find one false, say at which input.
  Laid BY PROGRAM, IN A SANDBOX (cutbox-rows.mjs): the forced cells as the released guide's own fill.sh prints them over the translation cd76f3e60d2584e6… (all of the seat's roots in one cut). By AI agents, Wed Nov 11 2026. No macro, syntax, notation, axiom, sorry.
-/
import Derived.Test.Qxb6625787aChecked
import GoSem.Claim
import GoSem.ClaimJoined
import GoSem.ClaimMapViews
import Derived.JoinedTies
import Derived.KernelRfl
namespace Go.Proofs.Qxb6625787a
/- THE CELL 'sum', in the pinned program and in every row, IS THE sha256 OF THE DUMP (.gsa) THAT Qxb6625787aProg.lean LOADS. Nothing in Lean hashes anything: it is a label: what it is worth is what the hold of that sum in a sandbox is worth. -/
noncomputable def Try.pinned : Pinned := { name := "qxb6625787a", sum := "cd76f3e60d2584e6a30920bbb00561984935ddb7416da07c097b01e99c9e6c1d", checked := Try.checked }
namespace Rows
def none {H : Type} : Left H := { results := [], args := [] }

/-- 'zzlaws_history_b1.FnWhatStopsAtTheNextToken': WHATEVER THE INPUT: true; the input reads as it did. -/
def fnWhatStopsAtTheNextTokenSpec : ChangeSpec := { name := "fnWhatStopsAtTheNextToken", fn := fun _ => fun
  | [d1, d2] => { results := [.lit (.bool true)], args := [d1, d2] }
  | _ => none }
def fnWhatStopsAtTheNextTokenRow : OpenClaim := { program := "qxb6625787a", sum := "cd76f3e60d2584e6a30920bbb00561984935ddb7416da07c097b01e99c9e6c1d", func := "example.com/isoscope/isoscope/zzlaws_history_b1.FnWhatStopsAtTheNextToken", spec := "fnWhatStopsAtTheNextToken", apart := false }
def FnWhatStopsAtTheNextTokenSaid : Prop := fnWhatStopsAtTheNextTokenRow.holds Try.pinned (OpenSpec.ofChange fnWhatStopsAtTheNextTokenSpec)

/-- ITS FALSE NEIGHBOUR: 'it returns false'. Refute it at one input. -/
def fnWhatStopsAtTheNextTokenWrong : ChangeSpec := { name := "fnWhatStopsAtTheNextToken", fn := fun _ => fun
  | [d1, d2] => { results := [.lit (.bool false)], args := [d1, d2] }
  | _ => none }
def FnWhatStopsAtTheNextTokenWrongFalsely : Prop := fnWhatStopsAtTheNextTokenRow.holds Try.pinned (OpenSpec.ofChange fnWhatStopsAtTheNextTokenWrong)

end Rows
end Go.Proofs.Qxb6625787a
