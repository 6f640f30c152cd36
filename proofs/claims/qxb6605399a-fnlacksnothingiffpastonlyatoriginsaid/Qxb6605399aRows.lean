/-
  No cell of these rows narrows 'for every input' (looked for: loops, veiled, ifaces, maps, wideKeys, modest, calm, conditions, laid).
  DERIVED. THE GIVEN ROWS OF THIS SEAT. 5 by the template 'for every input the law returns true; each argument reads behind the call as it read before'; 0 by the template 'total and deterministic' (their statements: Qxb6605399aTotals.lean).
  GIVEN WITH THE SEED: the statements are not yours to turn. If you find one false, say at which input.
  Laid BY PROGRAM, IN A SANDBOX (cutbox-rows.mjs): the forced cells as the released guide's own fill.sh prints them over the translation 2fe7ab0a7c45806f… (all of the seat's roots in one cut). By AI agents, Wed Nov 11 2026. No macro, syntax, notation, axiom, sorry.
-/
import Derived.Test.Qxb6605399aChecked
import GoSem.Claim
import GoSem.ClaimJoined
import GoSem.ClaimMapViews
import Derived.JoinedTies
import Derived.KernelRfl
namespace Go.Proofs.Qxb6605399a
/- THE CELL 'sum', in the pinned program and in every row, IS THE sha256 OF THE DUMP (.gsa) THAT Qxb6605399aProg.lean LOADS. Nothing in Lean hashes anything: it is a label: what it is worth is what the hold of that sum in a sandbox is worth. -/
noncomputable def Try.pinned : Pinned := { name := "qxb6605399a", sum := "2fe7ab0a7c45806f5359b31ba0d2a8163c33869ded871d991d0ebdf5e1b49ee6", checked := Try.checked }
namespace Rows
def none {H : Type} : Left H := { results := [], args := [] }

/-- 'zzlaws_check_b1.FnAtRebuildsVector': WHATEVER THE INPUT: true; the input reads as it did. -/
def fnAtRebuildsVectorSpec : ChangeSpec := { name := "fnAtRebuildsVector", fn := fun _ => fun
  | [d] => { results := [.lit (.bool true)], args := [d] }
  | _ => none }
def fnAtRebuildsVectorRow : OpenClaim := { program := "qxb6605399a", sum := "2fe7ab0a7c45806f5359b31ba0d2a8163c33869ded871d991d0ebdf5e1b49ee6", func := "example.com/causeway/causeway/zzlaws_check_b1.FnAtRebuildsVector", spec := "fnAtRebuildsVector", apart := false }
def FnAtRebuildsVectorSaid : Prop := fnAtRebuildsVectorRow.holds Try.pinned (OpenSpec.ofChange fnAtRebuildsVectorSpec)

/-- ITS FALSE NEIGHBOUR: 'it returns false'. Refute it at one input. -/
def fnAtRebuildsVectorWrong : ChangeSpec := { name := "fnAtRebuildsVector", fn := fun _ => fun
  | [d] => { results := [.lit (.bool false)], args := [d] }
  | _ => none }
def FnAtRebuildsVectorWrongFalsely : Prop := fnAtRebuildsVectorRow.holds Try.pinned (OpenSpec.ofChange fnAtRebuildsVectorWrong)

/-- 'zzlaws_check_b1.FnSameButMasked': WHATEVER THE INPUT: true; the input reads as it did. -/
def fnSameButMaskedSpec : ChangeSpec := { name := "fnSameButMasked", fn := fun _ => fun
  | [d1, d2, d3] => { results := [.lit (.bool true)], args := [d1, d2, d3] }
  | _ => none }
def fnSameButMaskedRow : OpenClaim := { program := "qxb6605399a", sum := "2fe7ab0a7c45806f5359b31ba0d2a8163c33869ded871d991d0ebdf5e1b49ee6", func := "example.com/causeway/causeway/zzlaws_check_b1.FnSameButMasked", spec := "fnSameButMasked", apart := false }
def FnSameButMaskedSaid : Prop := fnSameButMaskedRow.holds Try.pinned (OpenSpec.ofChange fnSameButMaskedSpec)

/-- ITS FALSE NEIGHBOUR: 'it returns false'. Refute it at one input. -/
def fnSameButMaskedWrong : ChangeSpec := { name := "fnSameButMasked", fn := fun _ => fun
  | [d1, d2, d3] => { results := [.lit (.bool false)], args := [d1, d2, d3] }
  | _ => none }
def FnSameButMaskedWrongFalsely : Prop := fnSameButMaskedRow.holds Try.pinned (OpenSpec.ofChange fnSameButMaskedWrong)

/-- 'zzlaws_check_b1.FnSameButOneChange': WHATEVER THE INPUT: true; the input reads as it did. -/
def fnSameButOneChangeSpec : ChangeSpec := { name := "fnSameButOneChange", fn := fun _ => fun
  | [d1, d2, d3, d4] => { results := [.lit (.bool true)], args := [d1, d2, d3, d4] }
  | _ => none }
def fnSameButOneChangeRow : OpenClaim := { program := "qxb6605399a", sum := "2fe7ab0a7c45806f5359b31ba0d2a8163c33869ded871d991d0ebdf5e1b49ee6", func := "example.com/causeway/causeway/zzlaws_check_b1.FnSameButOneChange", spec := "fnSameButOneChange", apart := false }
def FnSameButOneChangeSaid : Prop := fnSameButOneChangeRow.holds Try.pinned (OpenSpec.ofChange fnSameButOneChangeSpec)

/-- ITS FALSE NEIGHBOUR: 'it returns false'. Refute it at one input. -/
def fnSameButOneChangeWrong : ChangeSpec := { name := "fnSameButOneChange", fn := fun _ => fun
  | [d1, d2, d3, d4] => { results := [.lit (.bool false)], args := [d1, d2, d3, d4] }
  | _ => none }
def FnSameButOneChangeWrongFalsely : Prop := fnSameButOneChangeRow.holds Try.pinned (OpenSpec.ofChange fnSameButOneChangeWrong)

/-- 'zzlaws_check_b1.FnLacksFirstNeededWhenNothingDelivered': WHATEVER THE INPUT: true; the input reads as it did. -/
def fnLacksFirstNeededWhenNothingDeliveredSpec : ChangeSpec := { name := "fnLacksFirstNeededWhenNothingDelivered", fn := fun _ => fun
  | [d1, d2, d3, d4] => { results := [.lit (.bool true)], args := [d1, d2, d3, d4] }
  | _ => none }
def fnLacksFirstNeededWhenNothingDeliveredRow : OpenClaim := { program := "qxb6605399a", sum := "2fe7ab0a7c45806f5359b31ba0d2a8163c33869ded871d991d0ebdf5e1b49ee6", func := "example.com/causeway/causeway/zzlaws_check_b1.FnLacksFirstNeededWhenNothingDelivered", spec := "fnLacksFirstNeededWhenNothingDelivered", apart := false }
def FnLacksFirstNeededWhenNothingDeliveredSaid : Prop := fnLacksFirstNeededWhenNothingDeliveredRow.holds Try.pinned (OpenSpec.ofChange fnLacksFirstNeededWhenNothingDeliveredSpec)

/-- ITS FALSE NEIGHBOUR: 'it returns false'. Refute it at one input. -/
def fnLacksFirstNeededWhenNothingDeliveredWrong : ChangeSpec := { name := "fnLacksFirstNeededWhenNothingDelivered", fn := fun _ => fun
  | [d1, d2, d3, d4] => { results := [.lit (.bool false)], args := [d1, d2, d3, d4] }
  | _ => none }
def FnLacksFirstNeededWhenNothingDeliveredWrongFalsely : Prop := fnLacksFirstNeededWhenNothingDeliveredRow.holds Try.pinned (OpenSpec.ofChange fnLacksFirstNeededWhenNothingDeliveredWrong)

/-- 'zzlaws_check_b1.FnLacksNothingIffPastOnlyAtOrigin': WHATEVER THE INPUT: true; the input reads as it did. -/
def fnLacksNothingIffPastOnlyAtOriginSpec : ChangeSpec := { name := "fnLacksNothingIffPastOnlyAtOrigin", fn := fun _ => fun
  | [d1, d2, d3, d4] => { results := [.lit (.bool true)], args := [d1, d2, d3, d4] }
  | _ => none }
def fnLacksNothingIffPastOnlyAtOriginRow : OpenClaim := { program := "qxb6605399a", sum := "2fe7ab0a7c45806f5359b31ba0d2a8163c33869ded871d991d0ebdf5e1b49ee6", func := "example.com/causeway/causeway/zzlaws_check_b1.FnLacksNothingIffPastOnlyAtOrigin", spec := "fnLacksNothingIffPastOnlyAtOrigin", apart := false }
def FnLacksNothingIffPastOnlyAtOriginSaid : Prop := fnLacksNothingIffPastOnlyAtOriginRow.holds Try.pinned (OpenSpec.ofChange fnLacksNothingIffPastOnlyAtOriginSpec)

/-- ITS FALSE NEIGHBOUR: 'it returns false'. Refute it at one input. -/
def fnLacksNothingIffPastOnlyAtOriginWrong : ChangeSpec := { name := "fnLacksNothingIffPastOnlyAtOrigin", fn := fun _ => fun
  | [d1, d2, d3, d4] => { results := [.lit (.bool false)], args := [d1, d2, d3, d4] }
  | _ => none }
def FnLacksNothingIffPastOnlyAtOriginWrongFalsely : Prop := fnLacksNothingIffPastOnlyAtOriginRow.holds Try.pinned (OpenSpec.ofChange fnLacksNothingIffPastOnlyAtOriginWrong)

end Rows
end Go.Proofs.Qxb6605399a
