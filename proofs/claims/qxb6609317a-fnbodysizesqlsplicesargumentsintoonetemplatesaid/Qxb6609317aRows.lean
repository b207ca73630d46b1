/-
  No cell of these rows narrows 'for every input' (looked for: loops, veiled, ifaces, maps, wideKeys, modest, calm, conditions, laid).
  DERIVED. THE GIVEN ROWS OF THIS SEAT. 4 by the template 'for every input the law returns true; each argument reads behind the call as it read before'; 0 by the template 'total and deterministic' (their statements: Qxb6609317aTotals.lean).
  GIVEN WITH THE SEED: the statements are not yours to turn. If you find one false, say at which input.
  Laid BY PROGRAM, IN A SANDBOX (cutbox-rows.mjs): the forced cells as the released guide's own fill.sh prints them over the translation c08014679eeeeb36… (all of the seat's roots in one cut). By AI agents, Wed Nov 11 2026. No macro, syntax, notation, axiom, sorry.
-/
import Derived.Test.Qxb6609317aChecked
import GoSem.Claim
import GoSem.ClaimJoined
import GoSem.ClaimMapViews
import Derived.JoinedTies
import Derived.KernelRfl
namespace Go.Proofs.Qxb6609317a
/- THE CELL 'sum', in the pinned program and in every row, IS THE sha256 OF THE DUMP (.gsa) THAT Qxb6609317aProg.lean LOADS. Nothing in Lean hashes anything: it is a label: what it is worth is what the hold of that sum in a sandbox is worth. -/
noncomputable def Try.pinned : Pinned := { name := "qxb6609317a", sum := "c08014679eeeeb3699abc8797a42de1228e981539a279eddc11264583917037b", checked := Try.checked }
namespace Rows
def none {H : Type} : Left H := { results := [], args := [] }

/-- 'zzlaws_store_b1.FnBodySizeSQLSplicesArgumentsIntoOneTemplate': WHATEVER THE INPUT: true; the input reads as it did. -/
def fnBodySizeSQLSplicesArgumentsIntoOneTemplateSpec : ChangeSpec := { name := "fnBodySizeSQLSplicesArgumentsIntoOneTemplate", fn := fun _ => fun
  | [d1, d2] => { results := [.lit (.bool true)], args := [d1, d2] }
  | _ => none }
def fnBodySizeSQLSplicesArgumentsIntoOneTemplateRow : OpenClaim := { program := "qxb6609317a", sum := "c08014679eeeeb3699abc8797a42de1228e981539a279eddc11264583917037b", func := "example.com/fenceline/fenceline/zzlaws_store_b1.FnBodySizeSQLSplicesArgumentsIntoOneTemplate", spec := "fnBodySizeSQLSplicesArgumentsIntoOneTemplate", apart := false }
def FnBodySizeSQLSplicesArgumentsIntoOneTemplateSaid : Prop := fnBodySizeSQLSplicesArgumentsIntoOneTemplateRow.holds Try.pinned (OpenSpec.ofChange fnBodySizeSQLSplicesArgumentsIntoOneTemplateSpec)

/-- ITS FALSE NEIGHBOUR: 'it returns false'. Refute it at one input. -/
def fnBodySizeSQLSplicesArgumentsIntoOneTemplateWrong : ChangeSpec := { name := "fnBodySizeSQLSplicesArgumentsIntoOneTemplate", fn := fun _ => fun
  | [d1, d2] => { results := [.lit (.bool false)], args := [d1, d2] }
  | _ => none }
def FnBodySizeSQLSplicesArgumentsIntoOneTemplateWrongFalsely : Prop := fnBodySizeSQLSplicesArgumentsIntoOneTemplateRow.holds Try.pinned (OpenSpec.ofChange fnBodySizeSQLSplicesArgumentsIntoOneTemplateWrong)

/-- 'zzlaws_store_b1.FnBodySizeSQLIsOneParenthesisedTerm': WHATEVER THE INPUT: true; the input reads as it did. -/
def fnBodySizeSQLIsOneParenthesisedTermSpec : ChangeSpec := { name := "fnBodySizeSQLIsOneParenthesisedTerm", fn := fun _ => fun
  | [d1, d2] => { results := [.lit (.bool true)], args := [d1, d2] }
  | _ => none }
def fnBodySizeSQLIsOneParenthesisedTermRow : OpenClaim := { program := "qxb6609317a", sum := "c08014679eeeeb3699abc8797a42de1228e981539a279eddc11264583917037b", func := "example.com/fenceline/fenceline/zzlaws_store_b1.FnBodySizeSQLIsOneParenthesisedTerm", spec := "fnBodySizeSQLIsOneParenthesisedTerm", apart := false }
def FnBodySizeSQLIsOneParenthesisedTermSaid : Prop := fnBodySizeSQLIsOneParenthesisedTermRow.holds Try.pinned (OpenSpec.ofChange fnBodySizeSQLIsOneParenthesisedTermSpec)

/-- ITS FALSE NEIGHBOUR: 'it returns false'. Refute it at one input. -/
def fnBodySizeSQLIsOneParenthesisedTermWrong : ChangeSpec := { name := "fnBodySizeSQLIsOneParenthesisedTerm", fn := fun _ => fun
  | [d1, d2] => { results := [.lit (.bool false)], args := [d1, d2] }
  | _ => none }
def FnBodySizeSQLIsOneParenthesisedTermWrongFalsely : Prop := fnBodySizeSQLIsOneParenthesisedTermRow.holds Try.pinned (OpenSpec.ofChange fnBodySizeSQLIsOneParenthesisedTermWrong)

/-- 'zzlaws_store_b1.FnPageSQLSplicesItsFieldsIntoOneTemplate': WHATEVER THE INPUT: true; the input reads as it did. -/
def fnPageSQLSplicesItsFieldsIntoOneTemplateSpec : ChangeSpec := { name := "fnPageSQLSplicesItsFieldsIntoOneTemplate", fn := fun _ => fun
  | [d1, d2, d3, d4, d5, d6, d7, d8, d9] => { results := [.lit (.bool true)], args := [d1, d2, d3, d4, d5, d6, d7, d8, d9] }
  | _ => none }
def fnPageSQLSplicesItsFieldsIntoOneTemplateRow : OpenClaim := { program := "qxb6609317a", sum := "c08014679eeeeb3699abc8797a42de1228e981539a279eddc11264583917037b", func := "example.com/fenceline/fenceline/zzlaws_store_b1.FnPageSQLSplicesItsFieldsIntoOneTemplate", spec := "fnPageSQLSplicesItsFieldsIntoOneTemplate", apart := false }
def FnPageSQLSplicesItsFieldsIntoOneTemplateSaid : Prop := fnPageSQLSplicesItsFieldsIntoOneTemplateRow.holds Try.pinned (OpenSpec.ofChange fnPageSQLSplicesItsFieldsIntoOneTemplateSpec)

/-- ITS FALSE NEIGHBOUR: 'it returns false'. Refute it at one input. -/
def fnPageSQLSplicesItsFieldsIntoOneTemplateWrong : ChangeSpec := { name := "fnPageSQLSplicesItsFieldsIntoOneTemplate", fn := fun _ => fun
  | [d1, d2, d3, d4, d5, d6, d7, d8, d9] => { results := [.lit (.bool false)], args := [d1, d2, d3, d4, d5, d6, d7, d8, d9] }
  | _ => none }
def FnPageSQLSplicesItsFieldsIntoOneTemplateWrongFalsely : Prop := fnPageSQLSplicesItsFieldsIntoOneTemplateRow.holds Try.pinned (OpenSpec.ofChange fnPageSQLSplicesItsFieldsIntoOneTemplateWrong)

/-- 'zzlaws_store_b1.FnWriteSizeCountsTheJSONItSends': WHATEVER THE INPUT: true; the input reads as it did. -/
def fnWriteSizeCountsTheJSONItSendsSpec : ChangeSpec := { name := "fnWriteSizeCountsTheJSONItSends", fn := fun _ => fun
  | [d1, d2, d3, d4, d5] => { results := [.lit (.bool true)], args := [d1, d2, d3, d4, d5] }
  | _ => none }
def fnWriteSizeCountsTheJSONItSendsRow : OpenClaim := { program := "qxb6609317a", sum := "c08014679eeeeb3699abc8797a42de1228e981539a279eddc11264583917037b", func := "example.com/fenceline/fenceline/zzlaws_store_b1.FnWriteSizeCountsTheJSONItSends", spec := "fnWriteSizeCountsTheJSONItSends", apart := false }
def FnWriteSizeCountsTheJSONItSendsSaid : Prop := fnWriteSizeCountsTheJSONItSendsRow.holds Try.pinned (OpenSpec.ofChange fnWriteSizeCountsTheJSONItSendsSpec)

/-- ITS FALSE NEIGHBOUR: 'it returns false'. Refute it at one input. -/
def fnWriteSizeCountsTheJSONItSendsWrong : ChangeSpec := { name := "fnWriteSizeCountsTheJSONItSends", fn := fun _ => fun
  | [d1, d2, d3, d4, d5] => { results := [.lit (.bool false)], args := [d1, d2, d3, d4, d5] }
  | _ => none }
def FnWriteSizeCountsTheJSONItSendsWrongFalsely : Prop := fnWriteSizeCountsTheJSONItSendsRow.holds Try.pinned (OpenSpec.ofChange fnWriteSizeCountsTheJSONItSendsWrong)

end Rows
end Go.Proofs.Qxb6609317a
