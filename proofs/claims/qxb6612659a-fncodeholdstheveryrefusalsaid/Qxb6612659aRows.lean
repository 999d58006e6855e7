/-
  No cell of these rows narrows 'for every input' (looked for: loops, veiled, ifaces, maps, wideKeys, modest, calm, conditions, laid).
  DERIVED. THE GIVEN ROWS OF THIS SEAT. 3 by the template 'for every input the law returns true; each argument reads behind the call as it read before'; 0 by the template 'total and deterministic' (their statements: Qxb6612659aTotals.lean).
  GIVEN WITH THE SEED: the statements are not yours to turn. If you find one false, say at which input.
  Laid BY PROGRAM, IN A SANDBOX (cutbox-rows.mjs): the forced cells as the released guide's own fill.sh prints them over the translation a0aac650541ff0ea… (all of the seat's roots in one cut). By AI agents, Wed Nov 11 2026. No macro, syntax, notation, axiom, sorry.
-/
import Derived.Test.Qxb6612659aChecked
import GoSem.Claim
import GoSem.ClaimJoined
import GoSem.ClaimMapViews
import Derived.JoinedTies
import Derived.KernelRfl
namespace Go.Proofs.Qxb6612659a
/- THE CELL 'sum', in the pinned program and in every row, IS THE sha256 OF THE DUMP (.gsa) THAT Qxb6612659aProg.lean LOADS. Nothing in Lean hashes anything: it is a label: what it is worth is what the hold of that sum in a sandbox is worth. -/
noncomputable def Try.pinned : Pinned := { name := "qxb6612659a", sum := "a0aac650541ff0eac8709c0cb5c98ebc7ddcb81ebea651d48d83d9a9c990841b", checked := Try.checked }
namespace Rows
def none {H : Type} : Left H := { results := [], args := [] }

/-- 'zzlaws_database_b1.FnFunctionStringCutName': WHATEVER THE INPUT: true; the input reads as it did. -/
def fnFunctionStringCutNameSpec : ChangeSpec := { name := "fnFunctionStringCutName", fn := fun _ => fun
  | [d1, d2, d3, d4] => { results := [.lit (.bool true)], args := [d1, d2, d3, d4] }
  | _ => none }
def fnFunctionStringCutNameRow : OpenClaim := { program := "qxb6612659a", sum := "a0aac650541ff0eac8709c0cb5c98ebc7ddcb81ebea651d48d83d9a9c990841b", func := "example.com/orgspine/orgspine/zzlaws_database_b1.FnFunctionStringCutName", spec := "fnFunctionStringCutName", apart := false }
def FnFunctionStringCutNameSaid : Prop := fnFunctionStringCutNameRow.holds Try.pinned (OpenSpec.ofChange fnFunctionStringCutNameSpec)

/-- ITS FALSE NEIGHBOUR: 'it returns false'. Refute it at one input. -/
def fnFunctionStringCutNameWrong : ChangeSpec := { name := "fnFunctionStringCutName", fn := fun _ => fun
  | [d1, d2, d3, d4] => { results := [.lit (.bool false)], args := [d1, d2, d3, d4] }
  | _ => none }
def FnFunctionStringCutNameWrongFalsely : Prop := fnFunctionStringCutNameRow.holds Try.pinned (OpenSpec.ofChange fnFunctionStringCutNameWrong)

/-- 'zzlaws_database_b1.FnFunctionStringTellsNamesApart': WHATEVER THE INPUT: true; the input reads as it did. -/
def fnFunctionStringTellsNamesApartSpec : ChangeSpec := { name := "fnFunctionStringTellsNamesApart", fn := fun _ => fun
  | [d1, d2, d3, d4] => { results := [.lit (.bool true)], args := [d1, d2, d3, d4] }
  | _ => none }
def fnFunctionStringTellsNamesApartRow : OpenClaim := { program := "qxb6612659a", sum := "a0aac650541ff0eac8709c0cb5c98ebc7ddcb81ebea651d48d83d9a9c990841b", func := "example.com/orgspine/orgspine/zzlaws_database_b1.FnFunctionStringTellsNamesApart", spec := "fnFunctionStringTellsNamesApart", apart := false }
def FnFunctionStringTellsNamesApartSaid : Prop := fnFunctionStringTellsNamesApartRow.holds Try.pinned (OpenSpec.ofChange fnFunctionStringTellsNamesApartSpec)

/-- ITS FALSE NEIGHBOUR: 'it returns false'. Refute it at one input. -/
def fnFunctionStringTellsNamesApartWrong : ChangeSpec := { name := "fnFunctionStringTellsNamesApart", fn := fun _ => fun
  | [d1, d2, d3, d4] => { results := [.lit (.bool false)], args := [d1, d2, d3, d4] }
  | _ => none }
def FnFunctionStringTellsNamesApartWrongFalsely : Prop := fnFunctionStringTellsNamesApartRow.holds Try.pinned (OpenSpec.ofChange fnFunctionStringTellsNamesApartWrong)

/-- 'zzlaws_database_b1.FnCodeHoldsTheVeryRefusal': WHATEVER THE INPUT: true; the input reads as it did. -/
def fnCodeHoldsTheVeryRefusalSpec : ChangeSpec := { name := "fnCodeHoldsTheVeryRefusal", fn := fun _ => fun
  | [d1, d2, d3, d4] => { results := [.lit (.bool true)], args := [d1, d2, d3, d4] }
  | _ => none }
def fnCodeHoldsTheVeryRefusalRow : OpenClaim := { program := "qxb6612659a", sum := "a0aac650541ff0eac8709c0cb5c98ebc7ddcb81ebea651d48d83d9a9c990841b", func := "example.com/orgspine/orgspine/zzlaws_database_b1.FnCodeHoldsTheVeryRefusal", spec := "fnCodeHoldsTheVeryRefusal", apart := false }
def FnCodeHoldsTheVeryRefusalSaid : Prop := fnCodeHoldsTheVeryRefusalRow.holds Try.pinned (OpenSpec.ofChange fnCodeHoldsTheVeryRefusalSpec)

/-- ITS FALSE NEIGHBOUR: 'it returns false'. Refute it at one input. -/
def fnCodeHoldsTheVeryRefusalWrong : ChangeSpec := { name := "fnCodeHoldsTheVeryRefusal", fn := fun _ => fun
  | [d1, d2, d3, d4] => { results := [.lit (.bool false)], args := [d1, d2, d3, d4] }
  | _ => none }
def FnCodeHoldsTheVeryRefusalWrongFalsely : Prop := fnCodeHoldsTheVeryRefusalRow.holds Try.pinned (OpenSpec.ofChange fnCodeHoldsTheVeryRefusalWrong)

end Rows
end Go.Proofs.Qxb6612659a
