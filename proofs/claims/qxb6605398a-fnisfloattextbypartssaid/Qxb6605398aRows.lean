/-
  No cell of these rows narrows 'for every input' (looked for: loops, veiled, ifaces, maps, wideKeys, modest, calm, conditions, laid).
  DERIVED. THE GIVEN ROWS OF THIS SEAT. 4 by the template 'for every input the law returns true; each argument reads behind the call as it read before'; 0 by the template 'total and deterministic' (their statements: Qxb6605398aTotals.lean).
  GIVEN WITH THE SEED: the statements are not yours to turn. If you find one false, say at which input.
  Laid BY PROGRAM, IN A SANDBOX (cutbox-rows.mjs): the forced cells as the released guide's own fill.sh prints them over the translation b442a050fa119920… (all of the seat's roots in one cut). By AI agents, Wed Nov 11 2026. No macro, syntax, notation, axiom, sorry.
-/
import Derived.Test.Qxb6605398aChecked
import GoSem.Claim
import GoSem.ClaimJoined
import GoSem.ClaimMapViews
import Derived.JoinedTies
import Derived.KernelRfl
namespace Go.Proofs.Qxb6605398a
/- THE CELL 'sum', in the pinned program and in every row, IS THE sha256 OF THE DUMP (.gsa) THAT Qxb6605398aProg.lean LOADS. Nothing in Lean hashes anything: it is a label: what it is worth is what the hold of that sum in a sandbox is worth. -/
noncomputable def Try.pinned : Pinned := { name := "qxb6605398a", sum := "b442a050fa119920408f02d2923d3367c3fd6961b146cea1d56c783e2a4da9bd", checked := Try.checked }
namespace Rows
def none {H : Type} : Left H := { results := [], args := [] }

/-- 'zzlaws_root_b1.FnDirectiveAtMatchesGrammar': WHATEVER THE INPUT: true; the input reads as it did. -/
def fnDirectiveAtMatchesGrammarSpec : ChangeSpec := { name := "fnDirectiveAtMatchesGrammar", fn := fun _ => fun
  | [d1, d2] => { results := [.lit (.bool true)], args := [d1, d2] }
  | _ => none }
def fnDirectiveAtMatchesGrammarRow : OpenClaim := { program := "qxb6605398a", sum := "b442a050fa119920408f02d2923d3367c3fd6961b146cea1d56c783e2a4da9bd", func := "example.com/cotem/cotem/zzlaws_root_b1.FnDirectiveAtMatchesGrammar", spec := "fnDirectiveAtMatchesGrammar", apart := false }
def FnDirectiveAtMatchesGrammarSaid : Prop := fnDirectiveAtMatchesGrammarRow.holds Try.pinned (OpenSpec.ofChange fnDirectiveAtMatchesGrammarSpec)

/-- ITS FALSE NEIGHBOUR: 'it returns false'. Refute it at one input. -/
def fnDirectiveAtMatchesGrammarWrong : ChangeSpec := { name := "fnDirectiveAtMatchesGrammar", fn := fun _ => fun
  | [d1, d2] => { results := [.lit (.bool false)], args := [d1, d2] }
  | _ => none }
def FnDirectiveAtMatchesGrammarWrongFalsely : Prop := fnDirectiveAtMatchesGrammarRow.holds Try.pinned (OpenSpec.ofChange fnDirectiveAtMatchesGrammarWrong)

/-- 'zzlaws_root_b1.FnDirectiveAtReadsWrittenName': WHATEVER THE INPUT: true; the input reads as it did. -/
def fnDirectiveAtReadsWrittenNameSpec : ChangeSpec := { name := "fnDirectiveAtReadsWrittenName", fn := fun _ => fun
  | [d1, d2, d3, d4, d5] => { results := [.lit (.bool true)], args := [d1, d2, d3, d4, d5] }
  | _ => none }
def fnDirectiveAtReadsWrittenNameRow : OpenClaim := { program := "qxb6605398a", sum := "b442a050fa119920408f02d2923d3367c3fd6961b146cea1d56c783e2a4da9bd", func := "example.com/cotem/cotem/zzlaws_root_b1.FnDirectiveAtReadsWrittenName", spec := "fnDirectiveAtReadsWrittenName", apart := false }
def FnDirectiveAtReadsWrittenNameSaid : Prop := fnDirectiveAtReadsWrittenNameRow.holds Try.pinned (OpenSpec.ofChange fnDirectiveAtReadsWrittenNameSpec)

/-- ITS FALSE NEIGHBOUR: 'it returns false'. Refute it at one input. -/
def fnDirectiveAtReadsWrittenNameWrong : ChangeSpec := { name := "fnDirectiveAtReadsWrittenName", fn := fun _ => fun
  | [d1, d2, d3, d4, d5] => { results := [.lit (.bool false)], args := [d1, d2, d3, d4, d5] }
  | _ => none }
def FnDirectiveAtReadsWrittenNameWrongFalsely : Prop := fnDirectiveAtReadsWrittenNameRow.holds Try.pinned (OpenSpec.ofChange fnDirectiveAtReadsWrittenNameWrong)

/-- 'zzlaws_root_b1.FnIsFloatTextMatchesCoreSchema': WHATEVER THE INPUT: true; the input reads as it did. -/
def fnIsFloatTextMatchesCoreSchemaSpec : ChangeSpec := { name := "fnIsFloatTextMatchesCoreSchema", fn := fun _ => fun
  | [d] => { results := [.lit (.bool true)], args := [d] }
  | _ => none }
def fnIsFloatTextMatchesCoreSchemaRow : OpenClaim := { program := "qxb6605398a", sum := "b442a050fa119920408f02d2923d3367c3fd6961b146cea1d56c783e2a4da9bd", func := "example.com/cotem/cotem/zzlaws_root_b1.FnIsFloatTextMatchesCoreSchema", spec := "fnIsFloatTextMatchesCoreSchema", apart := false }
def FnIsFloatTextMatchesCoreSchemaSaid : Prop := fnIsFloatTextMatchesCoreSchemaRow.holds Try.pinned (OpenSpec.ofChange fnIsFloatTextMatchesCoreSchemaSpec)

/-- ITS FALSE NEIGHBOUR: 'it returns false'. Refute it at one input. -/
def fnIsFloatTextMatchesCoreSchemaWrong : ChangeSpec := { name := "fnIsFloatTextMatchesCoreSchema", fn := fun _ => fun
  | [d] => { results := [.lit (.bool false)], args := [d] }
  | _ => none }
def FnIsFloatTextMatchesCoreSchemaWrongFalsely : Prop := fnIsFloatTextMatchesCoreSchemaRow.holds Try.pinned (OpenSpec.ofChange fnIsFloatTextMatchesCoreSchemaWrong)

/-- 'zzlaws_root_b1.FnIsFloatTextByParts': WHATEVER THE INPUT: true; the input reads as it did. -/
def fnIsFloatTextByPartsSpec : ChangeSpec := { name := "fnIsFloatTextByParts", fn := fun _ => fun
  | [d1, d2, d3, d4, d5, d6, d7] => { results := [.lit (.bool true)], args := [d1, d2, d3, d4, d5, d6, d7] }
  | _ => none }
def fnIsFloatTextByPartsRow : OpenClaim := { program := "qxb6605398a", sum := "b442a050fa119920408f02d2923d3367c3fd6961b146cea1d56c783e2a4da9bd", func := "example.com/cotem/cotem/zzlaws_root_b1.FnIsFloatTextByParts", spec := "fnIsFloatTextByParts", apart := false }
def FnIsFloatTextByPartsSaid : Prop := fnIsFloatTextByPartsRow.holds Try.pinned (OpenSpec.ofChange fnIsFloatTextByPartsSpec)

/-- ITS FALSE NEIGHBOUR: 'it returns false'. Refute it at one input. -/
def fnIsFloatTextByPartsWrong : ChangeSpec := { name := "fnIsFloatTextByParts", fn := fun _ => fun
  | [d1, d2, d3, d4, d5, d6, d7] => { results := [.lit (.bool false)], args := [d1, d2, d3, d4, d5, d6, d7] }
  | _ => none }
def FnIsFloatTextByPartsWrongFalsely : Prop := fnIsFloatTextByPartsRow.holds Try.pinned (OpenSpec.ofChange fnIsFloatTextByPartsWrong)

end Rows
end Go.Proofs.Qxb6605398a
