/-
  No cell of these rows narrows 'for every input' (looked for: loops, veiled, ifaces, maps, wideKeys, modest, calm, conditions, laid).
  DERIVED. THE GIVEN ROWS OF THIS SEAT. 4 by the template 'for every input the law returns true; each argument reads behind the call as it read before'; 0 by the template 'total and deterministic' (their statements: Qxb6605570aTotals.lean).
  GIVEN WITH THE SEED: the statements are not yours to turn. If you find one false, say at which input.
  Laid BY PROGRAM, IN A SANDBOX (cutbox-rows.mjs): the forced cells as the released guide's own fill.sh prints them over the translation c510b049d92b1f39… (all of the seat's roots in one cut). By AI agents, Wed Nov 11 2026. No macro, syntax, notation, axiom, sorry.
-/
import Derived.Test.Qxb6605570aChecked
import GoSem.Claim
import GoSem.ClaimJoined
import GoSem.ClaimMapViews
import Derived.JoinedTies
import Derived.KernelRfl
namespace Go.Proofs.Qxb6605570a
/- THE CELL 'sum', in the pinned program and in every row, IS THE sha256 OF THE DUMP (.gsa) THAT Qxb6605570aProg.lean LOADS. Nothing in Lean hashes anything: it is a label: what it is worth is what the hold of that sum in a sandbox is worth. -/
noncomputable def Try.pinned : Pinned := { name := "qxb6605570a", sum := "c510b049d92b1f390e1f052a2f439da816d0b99b44e6d169e85d2506d046fdd1", checked := Try.checked }
namespace Rows
def none {H : Type} : Left H := { results := [], args := [] }

/-- 'zzlaws_rtpstream_b1.FnFitsAgreesWithGroupModel': WHATEVER THE INPUT: true; the input reads as it did. -/
def fnFitsAgreesWithGroupModelSpec : ChangeSpec := { name := "fnFitsAgreesWithGroupModel", fn := fun _ => fun
  | [d1, d2, d3, d4, d5, d6] => { results := [.lit (.bool true)], args := [d1, d2, d3, d4, d5, d6] }
  | _ => none }
def fnFitsAgreesWithGroupModelRow : OpenClaim := { program := "qxb6605570a", sum := "c510b049d92b1f390e1f052a2f439da816d0b99b44e6d169e85d2506d046fdd1", func := "example.com/gobstream/gobstream/zzlaws_rtpstream_b1.FnFitsAgreesWithGroupModel", spec := "fnFitsAgreesWithGroupModel", apart := false }
def FnFitsAgreesWithGroupModelSaid : Prop := fnFitsAgreesWithGroupModelRow.holds Try.pinned (OpenSpec.ofChange fnFitsAgreesWithGroupModelSpec)

/-- ITS FALSE NEIGHBOUR: 'it returns false'. Refute it at one input. -/
def fnFitsAgreesWithGroupModelWrong : ChangeSpec := { name := "fnFitsAgreesWithGroupModel", fn := fun _ => fun
  | [d1, d2, d3, d4, d5, d6] => { results := [.lit (.bool false)], args := [d1, d2, d3, d4, d5, d6] }
  | _ => none }
def FnFitsAgreesWithGroupModelWrongFalsely : Prop := fnFitsAgreesWithGroupModelRow.holds Try.pinned (OpenSpec.ofChange fnFitsAgreesWithGroupModelWrong)

/-- 'zzlaws_rtpstream_b1.FnPushInsertsIntoRootPath': WHATEVER THE INPUT: true; the input reads as it did. -/
def fnPushInsertsIntoRootPathSpec : ChangeSpec := { name := "fnPushInsertsIntoRootPath", fn := fun _ => fun
  | [d1, d2, d3, d4, d5, d6, d7, d8, d9, d10] => { results := [.lit (.bool true)], args := [d1, d2, d3, d4, d5, d6, d7, d8, d9, d10] }
  | _ => none }
def fnPushInsertsIntoRootPathRow : OpenClaim := { program := "qxb6605570a", sum := "c510b049d92b1f390e1f052a2f439da816d0b99b44e6d169e85d2506d046fdd1", func := "example.com/gobstream/gobstream/zzlaws_rtpstream_b1.FnPushInsertsIntoRootPath", spec := "fnPushInsertsIntoRootPath", apart := false }
def FnPushInsertsIntoRootPathSaid : Prop := fnPushInsertsIntoRootPathRow.holds Try.pinned (OpenSpec.ofChange fnPushInsertsIntoRootPathSpec)

/-- ITS FALSE NEIGHBOUR: 'it returns false'. Refute it at one input. -/
def fnPushInsertsIntoRootPathWrong : ChangeSpec := { name := "fnPushInsertsIntoRootPath", fn := fun _ => fun
  | [d1, d2, d3, d4, d5, d6, d7, d8, d9, d10] => { results := [.lit (.bool false)], args := [d1, d2, d3, d4, d5, d6, d7, d8, d9, d10] }
  | _ => none }
def FnPushInsertsIntoRootPathWrongFalsely : Prop := fnPushInsertsIntoRootPathRow.holds Try.pinned (OpenSpec.ofChange fnPushInsertsIntoRootPathWrong)

/-- 'zzlaws_rtpstream_b1.FnPopTakesRootKeepsHeap': WHATEVER THE INPUT: true; the input reads as it did. -/
def fnPopTakesRootKeepsHeapSpec : ChangeSpec := { name := "fnPopTakesRootKeepsHeap", fn := fun _ => fun
  | [d1, d2, d3, d4, d5] => { results := [.lit (.bool true)], args := [d1, d2, d3, d4, d5] }
  | _ => none }
def fnPopTakesRootKeepsHeapRow : OpenClaim := { program := "qxb6605570a", sum := "c510b049d92b1f390e1f052a2f439da816d0b99b44e6d169e85d2506d046fdd1", func := "example.com/gobstream/gobstream/zzlaws_rtpstream_b1.FnPopTakesRootKeepsHeap", spec := "fnPopTakesRootKeepsHeap", apart := false }
def FnPopTakesRootKeepsHeapSaid : Prop := fnPopTakesRootKeepsHeapRow.holds Try.pinned (OpenSpec.ofChange fnPopTakesRootKeepsHeapSpec)

/-- ITS FALSE NEIGHBOUR: 'it returns false'. Refute it at one input. -/
def fnPopTakesRootKeepsHeapWrong : ChangeSpec := { name := "fnPopTakesRootKeepsHeap", fn := fun _ => fun
  | [d1, d2, d3, d4, d5] => { results := [.lit (.bool false)], args := [d1, d2, d3, d4, d5] }
  | _ => none }
def FnPopTakesRootKeepsHeapWrongFalsely : Prop := fnPopTakesRootKeepsHeapRow.holds Try.pinned (OpenSpec.ofChange fnPopTakesRootKeepsHeapWrong)

/-- 'zzlaws_rtpstream_b1.FnHeapScriptIsPriorityQueue': WHATEVER THE INPUT: true; the input reads as it did. -/
def fnHeapScriptIsPriorityQueueSpec : ChangeSpec := { name := "fnHeapScriptIsPriorityQueue", fn := fun _ => fun
  | [d1, d2, d3, d4, d5, d6] => { results := [.lit (.bool true)], args := [d1, d2, d3, d4, d5, d6] }
  | _ => none }
def fnHeapScriptIsPriorityQueueRow : OpenClaim := { program := "qxb6605570a", sum := "c510b049d92b1f390e1f052a2f439da816d0b99b44e6d169e85d2506d046fdd1", func := "example.com/gobstream/gobstream/zzlaws_rtpstream_b1.FnHeapScriptIsPriorityQueue", spec := "fnHeapScriptIsPriorityQueue", apart := false }
def FnHeapScriptIsPriorityQueueSaid : Prop := fnHeapScriptIsPriorityQueueRow.holds Try.pinned (OpenSpec.ofChange fnHeapScriptIsPriorityQueueSpec)

/-- ITS FALSE NEIGHBOUR: 'it returns false'. Refute it at one input. -/
def fnHeapScriptIsPriorityQueueWrong : ChangeSpec := { name := "fnHeapScriptIsPriorityQueue", fn := fun _ => fun
  | [d1, d2, d3, d4, d5, d6] => { results := [.lit (.bool false)], args := [d1, d2, d3, d4, d5, d6] }
  | _ => none }
def FnHeapScriptIsPriorityQueueWrongFalsely : Prop := fnHeapScriptIsPriorityQueueRow.holds Try.pinned (OpenSpec.ofChange fnHeapScriptIsPriorityQueueWrong)

end Rows
end Go.Proofs.Qxb6605570a
