/-
  No cell of these rows narrows 'for every input' (looked for: loops, veiled, ifaces, maps, wideKeys, modest, calm, conditions, laid).
  DERIVED. THE GIVEN ROWS OF THIS SEAT. 4 by the template 'for every input the law returns true; each argument reads behind the call as it read before'; 0 by the template 'total and deterministic' (their statements: Qxb6003632aTotals.lean).
  GIVEN WITH THE SEED: the statements are not yours to turn. If you find one false, say at which input.
  Laid BY PROGRAM, IN A SANDBOX (cutbox-rows.mjs): the forced cells as the released guide's own fill.sh prints them over the translation d41fac54f5a6ca33… (all of the seat's roots in one cut). By AI agents, Wed Nov 11 2026. No macro, syntax, notation, axiom, sorry.
-/
import Derived.Test.Qxb6003632aChecked
import GoSem.Claim
import GoSem.ClaimJoined
import GoSem.ClaimMapViews
import Derived.JoinedTies
import Derived.KernelRfl
namespace Go.Proofs.Qxb6003632a
/- THE CELL 'sum', in the pinned program and in every row, IS THE sha256 OF THE DUMP (.gsa) THAT Qxb6003632aProg.lean LOADS. Nothing in Lean hashes anything: it is a label: what it is worth is what the hold of that sum in a sandbox is worth. -/
noncomputable def Try.pinned : Pinned := { name := "qxb6003632a", sum := "d41fac54f5a6ca33910245757922a5161ed81bd9a85200fa80f1b3a24486a783", checked := Try.checked }
namespace Rows
def none {H : Type} : Left H := { results := [], args := [] }

/-- 'zzlaws_internal_sim_b1.FnCapacityCountsWholeWorkforces': WHATEVER THE INPUT: true; the input reads as it did. -/
def fnCapacityCountsWholeWorkforcesSpec : ChangeSpec := { name := "fnCapacityCountsWholeWorkforces", fn := fun _ => fun
  | [d1, d2, d3, d4, d5] => { results := [.lit (.bool true)], args := [d1, d2, d3, d4, d5] }
  | _ => none }
def fnCapacityCountsWholeWorkforcesRow : OpenClaim := { program := "qxb6003632a", sum := "d41fac54f5a6ca33910245757922a5161ed81bd9a85200fa80f1b3a24486a783", func := "example.com/taskcrier/taskcrier/zzlaws_internal_sim_b1.FnCapacityCountsWholeWorkforces", spec := "fnCapacityCountsWholeWorkforces", apart := false }
def FnCapacityCountsWholeWorkforcesSaid : Prop := fnCapacityCountsWholeWorkforcesRow.holds Try.pinned (OpenSpec.ofChange fnCapacityCountsWholeWorkforcesSpec)

/-- ITS FALSE NEIGHBOUR: 'it returns false'. Refute it at one input. -/
def fnCapacityCountsWholeWorkforcesWrong : ChangeSpec := { name := "fnCapacityCountsWholeWorkforces", fn := fun _ => fun
  | [d1, d2, d3, d4, d5] => { results := [.lit (.bool false)], args := [d1, d2, d3, d4, d5] }
  | _ => none }
def FnCapacityCountsWholeWorkforcesWrongFalsely : Prop := fnCapacityCountsWholeWorkforcesRow.holds Try.pinned (OpenSpec.ofChange fnCapacityCountsWholeWorkforcesWrong)

/-- 'zzlaws_internal_sim_b1.FnQueuePushKeepsHeap': WHATEVER THE INPUT: true; the input reads as it did. -/
def fnQueuePushKeepsHeapSpec : ChangeSpec := { name := "fnQueuePushKeepsHeap", fn := fun _ => fun
  | [d1, d2] => { results := [.lit (.bool true)], args := [d1, d2] }
  | _ => none }
def fnQueuePushKeepsHeapRow : OpenClaim := { program := "qxb6003632a", sum := "d41fac54f5a6ca33910245757922a5161ed81bd9a85200fa80f1b3a24486a783", func := "example.com/taskcrier/taskcrier/zzlaws_internal_sim_b1.FnQueuePushKeepsHeap", spec := "fnQueuePushKeepsHeap", apart := false }
def FnQueuePushKeepsHeapSaid : Prop := fnQueuePushKeepsHeapRow.holds Try.pinned (OpenSpec.ofChange fnQueuePushKeepsHeapSpec)

/-- ITS FALSE NEIGHBOUR: 'it returns false'. Refute it at one input. -/
def fnQueuePushKeepsHeapWrong : ChangeSpec := { name := "fnQueuePushKeepsHeap", fn := fun _ => fun
  | [d1, d2] => { results := [.lit (.bool false)], args := [d1, d2] }
  | _ => none }
def FnQueuePushKeepsHeapWrongFalsely : Prop := fnQueuePushKeepsHeapRow.holds Try.pinned (OpenSpec.ofChange fnQueuePushKeepsHeapWrong)

/-- 'zzlaws_internal_sim_b1.FnQueuePopTakesLeast': WHATEVER THE INPUT: true; the input reads as it did. -/
def fnQueuePopTakesLeastSpec : ChangeSpec := { name := "fnQueuePopTakesLeast", fn := fun _ => fun
  | [d] => { results := [.lit (.bool true)], args := [d] }
  | _ => none }
def fnQueuePopTakesLeastRow : OpenClaim := { program := "qxb6003632a", sum := "d41fac54f5a6ca33910245757922a5161ed81bd9a85200fa80f1b3a24486a783", func := "example.com/taskcrier/taskcrier/zzlaws_internal_sim_b1.FnQueuePopTakesLeast", spec := "fnQueuePopTakesLeast", apart := false }
def FnQueuePopTakesLeastSaid : Prop := fnQueuePopTakesLeastRow.holds Try.pinned (OpenSpec.ofChange fnQueuePopTakesLeastSpec)

/-- ITS FALSE NEIGHBOUR: 'it returns false'. Refute it at one input. -/
def fnQueuePopTakesLeastWrong : ChangeSpec := { name := "fnQueuePopTakesLeast", fn := fun _ => fun
  | [d] => { results := [.lit (.bool false)], args := [d] }
  | _ => none }
def FnQueuePopTakesLeastWrongFalsely : Prop := fnQueuePopTakesLeastRow.holds Try.pinned (OpenSpec.ofChange fnQueuePopTakesLeastWrong)

/-- 'zzlaws_internal_sim_b1.FnQueueScriptAgreesWithModel': WHATEVER THE INPUT: true; the input reads as it did. -/
def fnQueueScriptAgreesWithModelSpec : ChangeSpec := { name := "fnQueueScriptAgreesWithModel", fn := fun _ => fun
  | [d1, d2] => { results := [.lit (.bool true)], args := [d1, d2] }
  | _ => none }
def fnQueueScriptAgreesWithModelRow : OpenClaim := { program := "qxb6003632a", sum := "d41fac54f5a6ca33910245757922a5161ed81bd9a85200fa80f1b3a24486a783", func := "example.com/taskcrier/taskcrier/zzlaws_internal_sim_b1.FnQueueScriptAgreesWithModel", spec := "fnQueueScriptAgreesWithModel", apart := false }
def FnQueueScriptAgreesWithModelSaid : Prop := fnQueueScriptAgreesWithModelRow.holds Try.pinned (OpenSpec.ofChange fnQueueScriptAgreesWithModelSpec)

/-- ITS FALSE NEIGHBOUR: 'it returns false'. Refute it at one input. -/
def fnQueueScriptAgreesWithModelWrong : ChangeSpec := { name := "fnQueueScriptAgreesWithModel", fn := fun _ => fun
  | [d1, d2] => { results := [.lit (.bool false)], args := [d1, d2] }
  | _ => none }
def FnQueueScriptAgreesWithModelWrongFalsely : Prop := fnQueueScriptAgreesWithModelRow.holds Try.pinned (OpenSpec.ofChange fnQueueScriptAgreesWithModelWrong)

end Rows
end Go.Proofs.Qxb6003632a
