/-
  No cell of these rows narrows 'for every input' (looked for: loops, veiled, ifaces, maps, wideKeys, modest, calm, conditions, laid).
  DERIVED. THE GIVEN ROWS OF THIS SEAT. 2 by the template 'for every input the law returns true; each argument reads behind the call as it read before'; 0 by the template 'total and deterministic' (their statements: Qxb6630619aTotals.lean).
  GIVEN WITH THE SEED: the statements are not yours to turn. If you find one false, say at which input.
  Laid BY PROGRAM, IN A SANDBOX (cutbox-rows.mjs): the forced cells as the released guide's own fill.sh prints them over the translation ec266b0568a0be65… (all of the seat's roots in one cut). By AI agents, Wed Nov 11 2026. No macro, syntax, notation, axiom, sorry.
-/
import Derived.Test.Qxb6630619aChecked
import GoSem.Claim
import GoSem.ClaimJoined
import GoSem.ClaimMapViews
import Derived.JoinedTies
import Derived.KernelRfl
namespace Go.Proofs.Qxb6630619a
/- THE CELL 'sum', in the pinned program and in every row, IS THE sha256 OF THE DUMP (.gsa) THAT Qxb6630619aProg.lean LOADS. Nothing in Lean hashes anything: it is a label: what it is worth is what the hold of that sum in a sandbox is worth. -/
noncomputable def Try.pinned : Pinned := { name := "qxb6630619a", sum := "ec266b0568a0be65f4999265e86c0244319fcafd9d6d140744ba40a0ce6b3da7", checked := Try.checked }
namespace Rows
def none {H : Type} : Left H := { results := [], args := [] }

/-- 'zzlaws_root_b1.FnBase60MatchesSplitModel': WHATEVER THE INPUT: true; the input reads as it did. -/
def fnBase60MatchesSplitModelSpec : ChangeSpec := { name := "fnBase60MatchesSplitModel", fn := fun _ => fun
  | [d] => { results := [.lit (.bool true)], args := [d] }
  | _ => none }
def fnBase60MatchesSplitModelRow : OpenClaim := { program := "qxb6630619a", sum := "ec266b0568a0be65f4999265e86c0244319fcafd9d6d140744ba40a0ce6b3da7", func := "example.com/strict-merge/strict-merge/zzlaws_root_b1.FnBase60MatchesSplitModel", spec := "fnBase60MatchesSplitModel", apart := false }
def FnBase60MatchesSplitModelSaid : Prop := fnBase60MatchesSplitModelRow.holds Try.pinned (OpenSpec.ofChange fnBase60MatchesSplitModelSpec)

/-- ITS FALSE NEIGHBOUR: 'it returns false'. Refute it at one input. -/
def fnBase60MatchesSplitModelWrong : ChangeSpec := { name := "fnBase60MatchesSplitModel", fn := fun _ => fun
  | [d] => { results := [.lit (.bool false)], args := [d] }
  | _ => none }
def FnBase60MatchesSplitModelWrongFalsely : Prop := fnBase60MatchesSplitModelRow.holds Try.pinned (OpenSpec.ofChange fnBase60MatchesSplitModelWrong)

/-- 'zzlaws_root_b1.FnBase60AcceptsClockTimes': WHATEVER THE INPUT: true; the input reads as it did. -/
def fnBase60AcceptsClockTimesSpec : ChangeSpec := { name := "fnBase60AcceptsClockTimes", fn := fun _ => fun
  | [d1, d2, d3, d4] => { results := [.lit (.bool true)], args := [d1, d2, d3, d4] }
  | _ => none }
def fnBase60AcceptsClockTimesRow : OpenClaim := { program := "qxb6630619a", sum := "ec266b0568a0be65f4999265e86c0244319fcafd9d6d140744ba40a0ce6b3da7", func := "example.com/strict-merge/strict-merge/zzlaws_root_b1.FnBase60AcceptsClockTimes", spec := "fnBase60AcceptsClockTimes", apart := false }
def FnBase60AcceptsClockTimesSaid : Prop := fnBase60AcceptsClockTimesRow.holds Try.pinned (OpenSpec.ofChange fnBase60AcceptsClockTimesSpec)

/-- ITS FALSE NEIGHBOUR: 'it returns false'. Refute it at one input. -/
def fnBase60AcceptsClockTimesWrong : ChangeSpec := { name := "fnBase60AcceptsClockTimes", fn := fun _ => fun
  | [d1, d2, d3, d4] => { results := [.lit (.bool false)], args := [d1, d2, d3, d4] }
  | _ => none }
def FnBase60AcceptsClockTimesWrongFalsely : Prop := fnBase60AcceptsClockTimesRow.holds Try.pinned (OpenSpec.ofChange fnBase60AcceptsClockTimesWrong)

end Rows
end Go.Proofs.Qxb6630619a
