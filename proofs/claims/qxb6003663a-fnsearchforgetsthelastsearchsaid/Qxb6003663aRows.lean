/-
  No cell of these rows narrows 'for every input' (looked for: loops, veiled, ifaces, maps, wideKeys, modest, calm, conditions, laid).
  DERIVED. THE GIVEN ROWS OF THIS SEAT. 6 by the template 'for every input the law returns true; each argument reads behind the call as it read before'; 0 by the template 'total and deterministic' (their statements: Qxb6003663aTotals.lean).
  GIVEN WITH THE SEED: the statements are not yours to turn. If you find one false, say at which input.
  Laid BY PROGRAM, IN A SANDBOX (cutbox-rows.mjs): the forced cells as the released guide's own fill.sh prints them over the translation af18530f11357b97… (all of the seat's roots in one cut). By AI agents, Wed Nov 11 2026. No macro, syntax, notation, axiom, sorry.
-/
import Derived.Test.Qxb6003663aChecked
import GoSem.Claim
import GoSem.ClaimJoined
import GoSem.ClaimMapViews
import Derived.JoinedTies
import Derived.KernelRfl
namespace Go.Proofs.Qxb6003663a
/- THE CELL 'sum', in the pinned program and in every row, IS THE sha256 OF THE DUMP (.gsa) THAT Qxb6003663aProg.lean LOADS. Nothing in Lean hashes anything: it is a label: what it is worth is what the hold of that sum in a sandbox is worth. -/
noncomputable def Try.pinned : Pinned := { name := "qxb6003663a", sum := "af18530f11357b97152815fa647b3062b47eccd988505c78777b5c468f123513", checked := Try.checked }
namespace Rows
def none {H : Type} : Left H := { results := [], args := [] }

/-- 'zzlaws_internal_lock_b1.FnCliqueStepsCountsTheGreedyClique': WHATEVER THE INPUT: true; the input reads as it did. -/
def fnCliqueStepsCountsTheGreedyCliqueSpec : ChangeSpec := { name := "fnCliqueStepsCountsTheGreedyClique", fn := fun _ => fun
  | [d1, d2, d3] => { results := [.lit (.bool true)], args := [d1, d2, d3] }
  | _ => none }
def fnCliqueStepsCountsTheGreedyCliqueRow : OpenClaim := { program := "qxb6003663a", sum := "af18530f11357b97152815fa647b3062b47eccd988505c78777b5c468f123513", func := "example.com/waitgraph/waitgraph/zzlaws_internal_lock_b1.FnCliqueStepsCountsTheGreedyClique", spec := "fnCliqueStepsCountsTheGreedyClique", apart := false }
def FnCliqueStepsCountsTheGreedyCliqueSaid : Prop := fnCliqueStepsCountsTheGreedyCliqueRow.holds Try.pinned (OpenSpec.ofChange fnCliqueStepsCountsTheGreedyCliqueSpec)

/-- ITS FALSE NEIGHBOUR: 'it returns false'. Refute it at one input. -/
def fnCliqueStepsCountsTheGreedyCliqueWrong : ChangeSpec := { name := "fnCliqueStepsCountsTheGreedyClique", fn := fun _ => fun
  | [d1, d2, d3] => { results := [.lit (.bool false)], args := [d1, d2, d3] }
  | _ => none }
def FnCliqueStepsCountsTheGreedyCliqueWrongFalsely : Prop := fnCliqueStepsCountsTheGreedyCliqueRow.holds Try.pinned (OpenSpec.ofChange fnCliqueStepsCountsTheGreedyCliqueWrong)

/-- 'zzlaws_internal_lock_b1.FnCliqueStepsRepeatsOnOneBound': WHATEVER THE INPUT: true; the input reads as it did. -/
def fnCliqueStepsRepeatsOnOneBoundSpec : ChangeSpec := { name := "fnCliqueStepsRepeatsOnOneBound", fn := fun _ => fun
  | [d1, d2, d3, d4] => { results := [.lit (.bool true)], args := [d1, d2, d3, d4] }
  | _ => none }
def fnCliqueStepsRepeatsOnOneBoundRow : OpenClaim := { program := "qxb6003663a", sum := "af18530f11357b97152815fa647b3062b47eccd988505c78777b5c468f123513", func := "example.com/waitgraph/waitgraph/zzlaws_internal_lock_b1.FnCliqueStepsRepeatsOnOneBound", spec := "fnCliqueStepsRepeatsOnOneBound", apart := false }
def FnCliqueStepsRepeatsOnOneBoundSaid : Prop := fnCliqueStepsRepeatsOnOneBoundRow.holds Try.pinned (OpenSpec.ofChange fnCliqueStepsRepeatsOnOneBoundSpec)

/-- ITS FALSE NEIGHBOUR: 'it returns false'. Refute it at one input. -/
def fnCliqueStepsRepeatsOnOneBoundWrong : ChangeSpec := { name := "fnCliqueStepsRepeatsOnOneBound", fn := fun _ => fun
  | [d1, d2, d3, d4] => { results := [.lit (.bool false)], args := [d1, d2, d3, d4] }
  | _ => none }
def FnCliqueStepsRepeatsOnOneBoundWrongFalsely : Prop := fnCliqueStepsRepeatsOnOneBoundRow.holds Try.pinned (OpenSpec.ofChange fnCliqueStepsRepeatsOnOneBoundWrong)

/-- 'zzlaws_internal_lock_b1.FnSearchIsDepthFirstPostorder': WHATEVER THE INPUT: true; the input reads as it did. -/
def fnSearchIsDepthFirstPostorderSpec : ChangeSpec := { name := "fnSearchIsDepthFirstPostorder", fn := fun _ => fun
  | [d1, d2, d3] => { results := [.lit (.bool true)], args := [d1, d2, d3] }
  | _ => none }
def fnSearchIsDepthFirstPostorderRow : OpenClaim := { program := "qxb6003663a", sum := "af18530f11357b97152815fa647b3062b47eccd988505c78777b5c468f123513", func := "example.com/waitgraph/waitgraph/zzlaws_internal_lock_b1.FnSearchIsDepthFirstPostorder", spec := "fnSearchIsDepthFirstPostorder", recurses := true, apart := false }
def FnSearchIsDepthFirstPostorderSaid : Prop := fnSearchIsDepthFirstPostorderRow.holds Try.pinned (OpenSpec.ofChange fnSearchIsDepthFirstPostorderSpec)

/-- ITS FALSE NEIGHBOUR: 'it returns false'. Refute it at one input. -/
def fnSearchIsDepthFirstPostorderWrong : ChangeSpec := { name := "fnSearchIsDepthFirstPostorder", fn := fun _ => fun
  | [d1, d2, d3] => { results := [.lit (.bool false)], args := [d1, d2, d3] }
  | _ => none }
def FnSearchIsDepthFirstPostorderWrongFalsely : Prop := fnSearchIsDepthFirstPostorderRow.holds Try.pinned (OpenSpec.ofChange fnSearchIsDepthFirstPostorderWrong)

/-- 'zzlaws_internal_lock_b1.FnSearchForgetsTheLastSearch': WHATEVER THE INPUT: true; the input reads as it did. -/
def fnSearchForgetsTheLastSearchSpec : ChangeSpec := { name := "fnSearchForgetsTheLastSearch", fn := fun _ => fun
  | [d1, d2, d3, d4, d5] => { results := [.lit (.bool true)], args := [d1, d2, d3, d4, d5] }
  | _ => none }
def fnSearchForgetsTheLastSearchRow : OpenClaim := { program := "qxb6003663a", sum := "af18530f11357b97152815fa647b3062b47eccd988505c78777b5c468f123513", func := "example.com/waitgraph/waitgraph/zzlaws_internal_lock_b1.FnSearchForgetsTheLastSearch", spec := "fnSearchForgetsTheLastSearch", recurses := true, apart := false }
def FnSearchForgetsTheLastSearchSaid : Prop := fnSearchForgetsTheLastSearchRow.holds Try.pinned (OpenSpec.ofChange fnSearchForgetsTheLastSearchSpec)

/-- ITS FALSE NEIGHBOUR: 'it returns false'. Refute it at one input. -/
def fnSearchForgetsTheLastSearchWrong : ChangeSpec := { name := "fnSearchForgetsTheLastSearch", fn := fun _ => fun
  | [d1, d2, d3, d4, d5] => { results := [.lit (.bool false)], args := [d1, d2, d3, d4, d5] }
  | _ => none }
def FnSearchForgetsTheLastSearchWrongFalsely : Prop := fnSearchForgetsTheLastSearchRow.holds Try.pinned (OpenSpec.ofChange fnSearchForgetsTheLastSearchWrong)

/-- 'zzlaws_internal_lock_b1.FnCycleStepsByClosingWalks': WHATEVER THE INPUT: true; the input reads as it did. -/
def fnCycleStepsByClosingWalksSpec : ChangeSpec := { name := "fnCycleStepsByClosingWalks", fn := fun _ => fun
  | [d1, d2, d3, d4] => { results := [.lit (.bool true)], args := [d1, d2, d3, d4] }
  | _ => none }
def fnCycleStepsByClosingWalksRow : OpenClaim := { program := "qxb6003663a", sum := "af18530f11357b97152815fa647b3062b47eccd988505c78777b5c468f123513", func := "example.com/waitgraph/waitgraph/zzlaws_internal_lock_b1.FnCycleStepsByClosingWalks", spec := "fnCycleStepsByClosingWalks", recurses := true, apart := false }
def FnCycleStepsByClosingWalksSaid : Prop := fnCycleStepsByClosingWalksRow.holds Try.pinned (OpenSpec.ofChange fnCycleStepsByClosingWalksSpec)

/-- ITS FALSE NEIGHBOUR: 'it returns false'. Refute it at one input. -/
def fnCycleStepsByClosingWalksWrong : ChangeSpec := { name := "fnCycleStepsByClosingWalks", fn := fun _ => fun
  | [d1, d2, d3, d4] => { results := [.lit (.bool false)], args := [d1, d2, d3, d4] }
  | _ => none }
def FnCycleStepsByClosingWalksWrongFalsely : Prop := fnCycleStepsByClosingWalksRow.holds Try.pinned (OpenSpec.ofChange fnCycleStepsByClosingWalksWrong)

/-- 'zzlaws_internal_lock_b1.FnCycleStepsRepeatsOnOneBound': WHATEVER THE INPUT: true; the input reads as it did. -/
def fnCycleStepsRepeatsOnOneBoundSpec : ChangeSpec := { name := "fnCycleStepsRepeatsOnOneBound", fn := fun _ => fun
  | [d1, d2, d3, d4, d5, d6] => { results := [.lit (.bool true)], args := [d1, d2, d3, d4, d5, d6] }
  | _ => none }
def fnCycleStepsRepeatsOnOneBoundRow : OpenClaim := { program := "qxb6003663a", sum := "af18530f11357b97152815fa647b3062b47eccd988505c78777b5c468f123513", func := "example.com/waitgraph/waitgraph/zzlaws_internal_lock_b1.FnCycleStepsRepeatsOnOneBound", spec := "fnCycleStepsRepeatsOnOneBound", recurses := true, apart := false }
def FnCycleStepsRepeatsOnOneBoundSaid : Prop := fnCycleStepsRepeatsOnOneBoundRow.holds Try.pinned (OpenSpec.ofChange fnCycleStepsRepeatsOnOneBoundSpec)

/-- ITS FALSE NEIGHBOUR: 'it returns false'. Refute it at one input. -/
def fnCycleStepsRepeatsOnOneBoundWrong : ChangeSpec := { name := "fnCycleStepsRepeatsOnOneBound", fn := fun _ => fun
  | [d1, d2, d3, d4, d5, d6] => { results := [.lit (.bool false)], args := [d1, d2, d3, d4, d5, d6] }
  | _ => none }
def FnCycleStepsRepeatsOnOneBoundWrongFalsely : Prop := fnCycleStepsRepeatsOnOneBoundRow.holds Try.pinned (OpenSpec.ofChange fnCycleStepsRepeatsOnOneBoundWrong)

end Rows
end Go.Proofs.Qxb6003663a
