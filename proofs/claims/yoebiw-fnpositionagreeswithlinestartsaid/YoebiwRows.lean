/-
  No cell of these rows narrows 'for every input' (looked for: loops, veiled, ifaces, maps, wideKeys, modest, calm, conditions, laid).
  DERIVED. THE GIVEN ROWS OF THIS SEAT. 4 by the template 'for every input the law returns true; each argument reads behind the call as it read before'; 0 by the template 'total and deterministic' (their statements: YoebiwTotals.lean).
  GIVEN WITH THE SEED: the statements are not yours to turn. If you find one false, say at which input.
  Laid BY PROGRAM, IN A SANDBOX (cutbox-rows.mjs): the forced cells as the released guide's own fill.sh prints them over the translation 9b926528d7edc770… (all of the seat's roots in one cut). By AI agents, Wed Nov 11 2026. No macro, syntax, notation, axiom, sorry.
-/
import Derived.Test.YoebiwChecked
import GoSem.Claim
import GoSem.ClaimJoined
import GoSem.ClaimMapViews
import Derived.JoinedTies
import Derived.KernelRfl
namespace Go.Proofs.Yoebiw
/- THE CELL 'sum', in the pinned program and in every row, IS THE sha256 OF THE DUMP (.gsa) THAT YoebiwProg.lean LOADS. Nothing in Lean hashes anything: it is a label: what it is worth is what the hold of that sum in a sandbox is worth. -/
noncomputable def Ebig.pinned : Pinned := { name := "yoebiw", sum := "9b926528d7edc77042c31baf02c5149f9fdc54d397d7619ce3753d537569dabe", checked := Ebig.checked }
namespace Rows
def none {H : Type} : Left H := { results := [], args := [] }

/-- 'zzlaws_parser_b49.FnAddLineMatchesRecordModel': WHATEVER THE INPUT: true; the input reads as it did. -/
def fnAddLineMatchesRecordModelSpec : ChangeSpec := { name := "fnAddLineMatchesRecordModel", fn := fun _ => fun
  | [d1, d2] => { results := [.lit (.bool true)], args := [d1, d2] }
  | _ => none }
def fnAddLineMatchesRecordModelRow : OpenClaim := { program := "yoebiw", sum := "9b926528d7edc77042c31baf02c5149f9fdc54d397d7619ce3753d537569dabe", func := "github.com/d5/tengo/v2/zzlaws_parser_b49.FnAddLineMatchesRecordModel", spec := "fnAddLineMatchesRecordModel", apart := false }
def FnAddLineMatchesRecordModelSaid : Prop := fnAddLineMatchesRecordModelRow.holds Ebig.pinned (OpenSpec.ofChange fnAddLineMatchesRecordModelSpec)

/-- ITS FALSE NEIGHBOUR: 'it returns false'. Refute it at one input. -/
def fnAddLineMatchesRecordModelWrong : ChangeSpec := { name := "fnAddLineMatchesRecordModel", fn := fun _ => fun
  | [d1, d2] => { results := [.lit (.bool false)], args := [d1, d2] }
  | _ => none }
def FnAddLineMatchesRecordModelWrongFalsely : Prop := fnAddLineMatchesRecordModelRow.holds Ebig.pinned (OpenSpec.ofChange fnAddLineMatchesRecordModelWrong)

/-- 'zzlaws_parser_b49.FnAddLineScriptInvariant': WHATEVER THE INPUT: true; the input reads as it did. -/
def fnAddLineScriptInvariantSpec : ChangeSpec := { name := "fnAddLineScriptInvariant", fn := fun _ => fun
  | [d1, d2, d3] => { results := [.lit (.bool true)], args := [d1, d2, d3] }
  | _ => none }
def fnAddLineScriptInvariantRow : OpenClaim := { program := "yoebiw", sum := "9b926528d7edc77042c31baf02c5149f9fdc54d397d7619ce3753d537569dabe", func := "github.com/d5/tengo/v2/zzlaws_parser_b49.FnAddLineScriptInvariant", spec := "fnAddLineScriptInvariant", apart := false }
def FnAddLineScriptInvariantSaid : Prop := fnAddLineScriptInvariantRow.holds Ebig.pinned (OpenSpec.ofChange fnAddLineScriptInvariantSpec)

/-- ITS FALSE NEIGHBOUR: 'it returns false'. Refute it at one input. -/
def fnAddLineScriptInvariantWrong : ChangeSpec := { name := "fnAddLineScriptInvariant", fn := fun _ => fun
  | [d1, d2, d3] => { results := [.lit (.bool false)], args := [d1, d2, d3] }
  | _ => none }
def FnAddLineScriptInvariantWrongFalsely : Prop := fnAddLineScriptInvariantRow.holds Ebig.pinned (OpenSpec.ofChange fnAddLineScriptInvariantWrong)

/-- 'zzlaws_parser_b49.FnPositionAgreesWithLineStart': WHATEVER THE INPUT: true; the input reads as it did. -/
def fnPositionAgreesWithLineStartSpec : ChangeSpec := { name := "fnPositionAgreesWithLineStart", fn := fun _ => fun
  | [d1, d2, d3, d4, d5] => { results := [.lit (.bool true)], args := [d1, d2, d3, d4, d5] }
  | _ => none }
def fnPositionAgreesWithLineStartRow : OpenClaim := { program := "yoebiw", sum := "9b926528d7edc77042c31baf02c5149f9fdc54d397d7619ce3753d537569dabe", func := "github.com/d5/tengo/v2/zzlaws_parser_b49.FnPositionAgreesWithLineStart", spec := "fnPositionAgreesWithLineStart", apart := false }
def FnPositionAgreesWithLineStartSaid : Prop := fnPositionAgreesWithLineStartRow.holds Ebig.pinned (OpenSpec.ofChange fnPositionAgreesWithLineStartSpec)

/-- ITS FALSE NEIGHBOUR: 'it returns false'. Refute it at one input. -/
def fnPositionAgreesWithLineStartWrong : ChangeSpec := { name := "fnPositionAgreesWithLineStart", fn := fun _ => fun
  | [d1, d2, d3, d4, d5] => { results := [.lit (.bool false)], args := [d1, d2, d3, d4, d5] }
  | _ => none }
def FnPositionAgreesWithLineStartWrongFalsely : Prop := fnPositionAgreesWithLineStartRow.holds Ebig.pinned (OpenSpec.ofChange fnPositionAgreesWithLineStartWrong)

/-- 'zzlaws_parser_b49.FnFileSetPosTwoFilesClosedForm': WHATEVER THE INPUT: true; the input reads as it did. -/
def fnFileSetPosTwoFilesClosedFormSpec : ChangeSpec := { name := "fnFileSetPosTwoFilesClosedForm", fn := fun _ => fun
  | [d1, d2, d3, d4] => { results := [.lit (.bool true)], args := [d1, d2, d3, d4] }
  | _ => none }
def fnFileSetPosTwoFilesClosedFormRow : OpenClaim := { program := "yoebiw", sum := "9b926528d7edc77042c31baf02c5149f9fdc54d397d7619ce3753d537569dabe", func := "github.com/d5/tengo/v2/zzlaws_parser_b49.FnFileSetPosTwoFilesClosedForm", spec := "fnFileSetPosTwoFilesClosedForm", apart := false }
def FnFileSetPosTwoFilesClosedFormSaid : Prop := fnFileSetPosTwoFilesClosedFormRow.holds Ebig.pinned (OpenSpec.ofChange fnFileSetPosTwoFilesClosedFormSpec)

/-- ITS FALSE NEIGHBOUR: 'it returns false'. Refute it at one input. -/
def fnFileSetPosTwoFilesClosedFormWrong : ChangeSpec := { name := "fnFileSetPosTwoFilesClosedForm", fn := fun _ => fun
  | [d1, d2, d3, d4] => { results := [.lit (.bool false)], args := [d1, d2, d3, d4] }
  | _ => none }
def FnFileSetPosTwoFilesClosedFormWrongFalsely : Prop := fnFileSetPosTwoFilesClosedFormRow.holds Ebig.pinned (OpenSpec.ofChange fnFileSetPosTwoFilesClosedFormWrong)

end Rows
end Go.Proofs.Yoebiw
