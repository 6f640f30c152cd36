/-
  No cell of these rows narrows 'for every input' (looked for: loops, veiled, ifaces, maps, wideKeys, modest, calm, conditions, laid).
  DERIVED. THE GIVEN ROWS OF THIS SEAT. 3 by the template 'for every input the law returns true; each argument reads behind the call as it read before'; 0 by the template 'total and deterministic' (their statements: Qxb6606283aTotals.lean).
  GIVEN WITH THE SEED: the statements are not yours to turn. If you find one false, say at which input.
  Laid BY PROGRAM, IN A SANDBOX (cutbox-rows.mjs): the forced cells as the released guide's own fill.sh prints them over the translation 7ca132d057e9e8fe… (all of the seat's roots in one cut). By AI agents, Wed Nov 11 2026. No macro, syntax, notation, axiom, sorry.
-/
import Derived.Test.Qxb6606283aChecked
import GoSem.Claim
import GoSem.ClaimJoined
import GoSem.ClaimMapViews
import Derived.JoinedTies
import Derived.KernelRfl
namespace Go.Proofs.Qxb6606283a
/- THE CELL 'sum', in the pinned program and in every row, IS THE sha256 OF THE DUMP (.gsa) THAT Qxb6606283aProg.lean LOADS. Nothing in Lean hashes anything: it is a label: what it is worth is what the hold of that sum in a sandbox is worth. -/
noncomputable def Try.pinned : Pinned := { name := "qxb6606283a", sum := "7ca132d057e9e8fe758437573463cb11594de8963403558383f8a9f492f80acc", checked := Try.checked }
namespace Rows
def none {H : Type} : Left H := { results := [], args := [] }

/-- 'zzlaws_internal_resp_b1.FnAppendQuotedDecodesDoubleQuotedEncoding': WHATEVER THE INPUT: true; the input reads as it did. -/
def fnAppendQuotedDecodesDoubleQuotedEncodingSpec : ChangeSpec := { name := "fnAppendQuotedDecodesDoubleQuotedEncoding", fn := fun _ => fun
  | [d1, d2, d3, d4, d5] => { results := [.lit (.bool true)], args := [d1, d2, d3, d4, d5] }
  | _ => none }
def fnAppendQuotedDecodesDoubleQuotedEncodingRow : OpenClaim := { program := "qxb6606283a", sum := "7ca132d057e9e8fe758437573463cb11594de8963403558383f8a9f492f80acc", func := "example.com/stillframe/stillframe/zzlaws_internal_resp_b1.FnAppendQuotedDecodesDoubleQuotedEncoding", spec := "fnAppendQuotedDecodesDoubleQuotedEncoding", apart := false }
def FnAppendQuotedDecodesDoubleQuotedEncodingSaid : Prop := fnAppendQuotedDecodesDoubleQuotedEncodingRow.holds Try.pinned (OpenSpec.ofChange fnAppendQuotedDecodesDoubleQuotedEncodingSpec)

/-- ITS FALSE NEIGHBOUR: 'it returns false'. Refute it at one input. -/
def fnAppendQuotedDecodesDoubleQuotedEncodingWrong : ChangeSpec := { name := "fnAppendQuotedDecodesDoubleQuotedEncoding", fn := fun _ => fun
  | [d1, d2, d3, d4, d5] => { results := [.lit (.bool false)], args := [d1, d2, d3, d4, d5] }
  | _ => none }
def FnAppendQuotedDecodesDoubleQuotedEncodingWrongFalsely : Prop := fnAppendQuotedDecodesDoubleQuotedEncodingRow.holds Try.pinned (OpenSpec.ofChange fnAppendQuotedDecodesDoubleQuotedEncodingWrong)

/-- 'zzlaws_internal_resp_b1.FnAppendQuotedKeepsWordAndShrinksTheSpan': WHATEVER THE INPUT: true; the input reads as it did. -/
def fnAppendQuotedKeepsWordAndShrinksTheSpanSpec : ChangeSpec := { name := "fnAppendQuotedKeepsWordAndShrinksTheSpan", fn := fun _ => fun
  | [d1, d2, d3] => { results := [.lit (.bool true)], args := [d1, d2, d3] }
  | _ => none }
def fnAppendQuotedKeepsWordAndShrinksTheSpanRow : OpenClaim := { program := "qxb6606283a", sum := "7ca132d057e9e8fe758437573463cb11594de8963403558383f8a9f492f80acc", func := "example.com/stillframe/stillframe/zzlaws_internal_resp_b1.FnAppendQuotedKeepsWordAndShrinksTheSpan", spec := "fnAppendQuotedKeepsWordAndShrinksTheSpan", apart := false }
def FnAppendQuotedKeepsWordAndShrinksTheSpanSaid : Prop := fnAppendQuotedKeepsWordAndShrinksTheSpanRow.holds Try.pinned (OpenSpec.ofChange fnAppendQuotedKeepsWordAndShrinksTheSpanSpec)

/-- ITS FALSE NEIGHBOUR: 'it returns false'. Refute it at one input. -/
def fnAppendQuotedKeepsWordAndShrinksTheSpanWrong : ChangeSpec := { name := "fnAppendQuotedKeepsWordAndShrinksTheSpan", fn := fun _ => fun
  | [d1, d2, d3] => { results := [.lit (.bool false)], args := [d1, d2, d3] }
  | _ => none }
def FnAppendQuotedKeepsWordAndShrinksTheSpanWrongFalsely : Prop := fnAppendQuotedKeepsWordAndShrinksTheSpanRow.holds Try.pinned (OpenSpec.ofChange fnAppendQuotedKeepsWordAndShrinksTheSpanWrong)

/-- 'zzlaws_internal_resp_b1.FnSplitWordsInvertsQuotingAndJoining': WHATEVER THE INPUT: true; the input reads as it did. -/
def fnSplitWordsInvertsQuotingAndJoiningSpec : ChangeSpec := { name := "fnSplitWordsInvertsQuotingAndJoining", fn := fun _ => fun
  | [d1, d2] => { results := [.lit (.bool true)], args := [d1, d2] }
  | _ => none }
def fnSplitWordsInvertsQuotingAndJoiningRow : OpenClaim := { program := "qxb6606283a", sum := "7ca132d057e9e8fe758437573463cb11594de8963403558383f8a9f492f80acc", func := "example.com/stillframe/stillframe/zzlaws_internal_resp_b1.FnSplitWordsInvertsQuotingAndJoining", spec := "fnSplitWordsInvertsQuotingAndJoining", apart := false }
def FnSplitWordsInvertsQuotingAndJoiningSaid : Prop := fnSplitWordsInvertsQuotingAndJoiningRow.holds Try.pinned (OpenSpec.ofChange fnSplitWordsInvertsQuotingAndJoiningSpec)

/-- ITS FALSE NEIGHBOUR: 'it returns false'. Refute it at one input. -/
def fnSplitWordsInvertsQuotingAndJoiningWrong : ChangeSpec := { name := "fnSplitWordsInvertsQuotingAndJoining", fn := fun _ => fun
  | [d1, d2] => { results := [.lit (.bool false)], args := [d1, d2] }
  | _ => none }
def FnSplitWordsInvertsQuotingAndJoiningWrongFalsely : Prop := fnSplitWordsInvertsQuotingAndJoiningRow.holds Try.pinned (OpenSpec.ofChange fnSplitWordsInvertsQuotingAndJoiningWrong)

end Rows
end Go.Proofs.Qxb6606283a
