/-
  No cell of these rows narrows 'for every input' (looked for: loops, veiled, ifaces, maps, wideKeys, modest, calm, conditions, laid).
  DERIVED. THE GIVEN ROWS OF THIS SEAT. 7 by the template 'for every input the law returns true; each argument reads behind the call as it read before'; 0 by the template 'total and deterministic' (their statements: Qxb6609551aTotals.lean).
  GIVEN WITH THE SEED: the statements are not yours to turn. If you find one false, say at which input.
  Laid BY PROGRAM, IN A SANDBOX (cutbox-rows.mjs): the forced cells as the released guide's own fill.sh prints them over the translation b7de1ca8516d7191… (all of the seat's roots in one cut). By AI agents, Wed Nov 11 2026. No macro, syntax, notation, axiom, sorry.
-/
import Derived.Test.Qxb6609551aChecked
import GoSem.Claim
import GoSem.ClaimJoined
import GoSem.ClaimMapViews
import Derived.JoinedTies
import Derived.KernelRfl
namespace Go.Proofs.Qxb6609551a
/- THE CELL 'sum', in the pinned program and in every row, IS THE sha256 OF THE DUMP (.gsa) THAT Qxb6609551aProg.lean LOADS. Nothing in Lean hashes anything: it is a label: what it is worth is what the hold of that sum in a sandbox is worth. -/
noncomputable def Try.pinned : Pinned := { name := "qxb6609551a", sum := "b7de1ca8516d71917e42de98bf0a663b1a584acf6300e5324959c32c32ba17f6", checked := Try.checked }
namespace Rows
def none {H : Type} : Left H := { results := [], args := [] }

/-- 'zzlaws_resource_b1.FnBoolDescribeNamesBooleansAlone': WHATEVER THE INPUT: true; the input reads as it did. -/
def fnBoolDescribeNamesBooleansAloneSpec : ChangeSpec := { name := "fnBoolDescribeNamesBooleansAlone", fn := fun _ => fun
  | [d] => { results := [.lit (.bool true)], args := [d] }
  | _ => none }
def fnBoolDescribeNamesBooleansAloneRow : OpenClaim := { program := "qxb6609551a", sum := "b7de1ca8516d71917e42de98bf0a663b1a584acf6300e5324959c32c32ba17f6", func := "example.com/panelwright/panelwright/zzlaws_resource_b1.FnBoolDescribeNamesBooleansAlone", spec := "fnBoolDescribeNamesBooleansAlone", apart := false }
def FnBoolDescribeNamesBooleansAloneSaid : Prop := fnBoolDescribeNamesBooleansAloneRow.holds Try.pinned (OpenSpec.ofChange fnBoolDescribeNamesBooleansAloneSpec)

/-- ITS FALSE NEIGHBOUR: 'it returns false'. Refute it at one input. -/
def fnBoolDescribeNamesBooleansAloneWrong : ChangeSpec := { name := "fnBoolDescribeNamesBooleansAlone", fn := fun _ => fun
  | [d] => { results := [.lit (.bool false)], args := [d] }
  | _ => none }
def FnBoolDescribeNamesBooleansAloneWrongFalsely : Prop := fnBoolDescribeNamesBooleansAloneRow.holds Try.pinned (OpenSpec.ofChange fnBoolDescribeNamesBooleansAloneWrong)

/-- 'zzlaws_resource_b1.FnKeyStringParsesBack': WHATEVER THE INPUT: true; the input reads as it did. -/
def fnKeyStringParsesBackSpec : ChangeSpec := { name := "fnKeyStringParsesBack", fn := fun _ => fun
  | [d1, d2, d3, d4, d5] => { results := [.lit (.bool true)], args := [d1, d2, d3, d4, d5] }
  | _ => none }
def fnKeyStringParsesBackRow : OpenClaim := { program := "qxb6609551a", sum := "b7de1ca8516d71917e42de98bf0a663b1a584acf6300e5324959c32c32ba17f6", func := "example.com/panelwright/panelwright/zzlaws_resource_b1.FnKeyStringParsesBack", spec := "fnKeyStringParsesBack", apart := false }
def FnKeyStringParsesBackSaid : Prop := fnKeyStringParsesBackRow.holds Try.pinned (OpenSpec.ofChange fnKeyStringParsesBackSpec)

/-- ITS FALSE NEIGHBOUR: 'it returns false'. Refute it at one input. -/
def fnKeyStringParsesBackWrong : ChangeSpec := { name := "fnKeyStringParsesBack", fn := fun _ => fun
  | [d1, d2, d3, d4, d5] => { results := [.lit (.bool false)], args := [d1, d2, d3, d4, d5] }
  | _ => none }
def FnKeyStringParsesBackWrongFalsely : Prop := fnKeyStringParsesBackRow.holds Try.pinned (OpenSpec.ofChange fnKeyStringParsesBackWrong)

/-- 'zzlaws_resource_b1.FnKeyStringIgnoresCollectionAndGlobalProject': WHATEVER THE INPUT: true; the input reads as it did. -/
def fnKeyStringIgnoresCollectionAndGlobalProjectSpec : ChangeSpec := { name := "fnKeyStringIgnoresCollectionAndGlobalProject", fn := fun _ => fun
  | [d1, d2, d3, d4, d5, d6, d7] => { results := [.lit (.bool true)], args := [d1, d2, d3, d4, d5, d6, d7] }
  | _ => none }
def fnKeyStringIgnoresCollectionAndGlobalProjectRow : OpenClaim := { program := "qxb6609551a", sum := "b7de1ca8516d71917e42de98bf0a663b1a584acf6300e5324959c32c32ba17f6", func := "example.com/panelwright/panelwright/zzlaws_resource_b1.FnKeyStringIgnoresCollectionAndGlobalProject", spec := "fnKeyStringIgnoresCollectionAndGlobalProject", apart := false }
def FnKeyStringIgnoresCollectionAndGlobalProjectSaid : Prop := fnKeyStringIgnoresCollectionAndGlobalProjectRow.holds Try.pinned (OpenSpec.ofChange fnKeyStringIgnoresCollectionAndGlobalProjectSpec)

/-- ITS FALSE NEIGHBOUR: 'it returns false'. Refute it at one input. -/
def fnKeyStringIgnoresCollectionAndGlobalProjectWrong : ChangeSpec := { name := "fnKeyStringIgnoresCollectionAndGlobalProject", fn := fun _ => fun
  | [d1, d2, d3, d4, d5, d6, d7] => { results := [.lit (.bool false)], args := [d1, d2, d3, d4, d5, d6, d7] }
  | _ => none }
def FnKeyStringIgnoresCollectionAndGlobalProjectWrongFalsely : Prop := fnKeyStringIgnoresCollectionAndGlobalProjectRow.holds Try.pinned (OpenSpec.ofChange fnKeyStringIgnoresCollectionAndGlobalProjectWrong)

/-- 'zzlaws_resource_b1.FnKeyProxyPathParsesBack': WHATEVER THE INPUT: true; the input reads as it did. -/
def fnKeyProxyPathParsesBackSpec : ChangeSpec := { name := "fnKeyProxyPathParsesBack", fn := fun _ => fun
  | [d1, d2, d3, d4, d5] => { results := [.lit (.bool true)], args := [d1, d2, d3, d4, d5] }
  | _ => none }
def fnKeyProxyPathParsesBackRow : OpenClaim := { program := "qxb6609551a", sum := "b7de1ca8516d71917e42de98bf0a663b1a584acf6300e5324959c32c32ba17f6", func := "example.com/panelwright/panelwright/zzlaws_resource_b1.FnKeyProxyPathParsesBack", spec := "fnKeyProxyPathParsesBack", apart := false }
def FnKeyProxyPathParsesBackSaid : Prop := fnKeyProxyPathParsesBackRow.holds Try.pinned (OpenSpec.ofChange fnKeyProxyPathParsesBackSpec)

/-- ITS FALSE NEIGHBOUR: 'it returns false'. Refute it at one input. -/
def fnKeyProxyPathParsesBackWrong : ChangeSpec := { name := "fnKeyProxyPathParsesBack", fn := fun _ => fun
  | [d1, d2, d3, d4, d5] => { results := [.lit (.bool false)], args := [d1, d2, d3, d4, d5] }
  | _ => none }
def FnKeyProxyPathParsesBackWrongFalsely : Prop := fnKeyProxyPathParsesBackRow.holds Try.pinned (OpenSpec.ofChange fnKeyProxyPathParsesBackWrong)

/-- 'zzlaws_resource_b1.FnKeyProxyPathSeparatesKeys': WHATEVER THE INPUT: true; the input reads as it did. -/
def fnKeyProxyPathSeparatesKeysSpec : ChangeSpec := { name := "fnKeyProxyPathSeparatesKeys", fn := fun _ => fun
  | [d1, d2, d3, d4, d5, d6, d7] => { results := [.lit (.bool true)], args := [d1, d2, d3, d4, d5, d6, d7] }
  | _ => none }
def fnKeyProxyPathSeparatesKeysRow : OpenClaim := { program := "qxb6609551a", sum := "b7de1ca8516d71917e42de98bf0a663b1a584acf6300e5324959c32c32ba17f6", func := "example.com/panelwright/panelwright/zzlaws_resource_b1.FnKeyProxyPathSeparatesKeys", spec := "fnKeyProxyPathSeparatesKeys", apart := false }
def FnKeyProxyPathSeparatesKeysSaid : Prop := fnKeyProxyPathSeparatesKeysRow.holds Try.pinned (OpenSpec.ofChange fnKeyProxyPathSeparatesKeysSpec)

/-- ITS FALSE NEIGHBOUR: 'it returns false'. Refute it at one input. -/
def fnKeyProxyPathSeparatesKeysWrong : ChangeSpec := { name := "fnKeyProxyPathSeparatesKeys", fn := fun _ => fun
  | [d1, d2, d3, d4, d5, d6, d7] => { results := [.lit (.bool false)], args := [d1, d2, d3, d4, d5, d6, d7] }
  | _ => none }
def FnKeyProxyPathSeparatesKeysWrongFalsely : Prop := fnKeyProxyPathSeparatesKeysRow.holds Try.pinned (OpenSpec.ofChange fnKeyProxyPathSeparatesKeysWrong)

/-- 'zzlaws_resource_b1.FnMapAcceptsWhatItDescribes': WHATEVER THE INPUT: true; the input reads as it did. -/
def fnMapAcceptsWhatItDescribesSpec : ChangeSpec := { name := "fnMapAcceptsWhatItDescribes", fn := fun _ => fun
  | [d] => { results := [.lit (.bool true)], args := [d] }
  | _ => none }
def fnMapAcceptsWhatItDescribesRow : OpenClaim := { program := "qxb6609551a", sum := "b7de1ca8516d71917e42de98bf0a663b1a584acf6300e5324959c32c32ba17f6", func := "example.com/panelwright/panelwright/zzlaws_resource_b1.FnMapAcceptsWhatItDescribes", spec := "fnMapAcceptsWhatItDescribes", apart := false }
def FnMapAcceptsWhatItDescribesSaid : Prop := fnMapAcceptsWhatItDescribesRow.holds Try.pinned (OpenSpec.ofChange fnMapAcceptsWhatItDescribesSpec)

/-- ITS FALSE NEIGHBOUR: 'it returns false'. Refute it at one input. -/
def fnMapAcceptsWhatItDescribesWrong : ChangeSpec := { name := "fnMapAcceptsWhatItDescribes", fn := fun _ => fun
  | [d] => { results := [.lit (.bool false)], args := [d] }
  | _ => none }
def FnMapAcceptsWhatItDescribesWrongFalsely : Prop := fnMapAcceptsWhatItDescribesRow.holds Try.pinned (OpenSpec.ofChange fnMapAcceptsWhatItDescribesWrong)

/-- 'zzlaws_resource_b1.FnMapAcceptsOneTypeWhateverItHolds': WHATEVER THE INPUT: true; the input reads as it did. -/
def fnMapAcceptsOneTypeWhateverItHoldsSpec : ChangeSpec := { name := "fnMapAcceptsOneTypeWhateverItHolds", fn := fun _ => fun
  | [d] => { results := [.lit (.bool true)], args := [d] }
  | _ => none }
def fnMapAcceptsOneTypeWhateverItHoldsRow : OpenClaim := { program := "qxb6609551a", sum := "b7de1ca8516d71917e42de98bf0a663b1a584acf6300e5324959c32c32ba17f6", func := "example.com/panelwright/panelwright/zzlaws_resource_b1.FnMapAcceptsOneTypeWhateverItHolds", spec := "fnMapAcceptsOneTypeWhateverItHolds", apart := false }
def FnMapAcceptsOneTypeWhateverItHoldsSaid : Prop := fnMapAcceptsOneTypeWhateverItHoldsRow.holds Try.pinned (OpenSpec.ofChange fnMapAcceptsOneTypeWhateverItHoldsSpec)

/-- ITS FALSE NEIGHBOUR: 'it returns false'. Refute it at one input. -/
def fnMapAcceptsOneTypeWhateverItHoldsWrong : ChangeSpec := { name := "fnMapAcceptsOneTypeWhateverItHolds", fn := fun _ => fun
  | [d] => { results := [.lit (.bool false)], args := [d] }
  | _ => none }
def FnMapAcceptsOneTypeWhateverItHoldsWrongFalsely : Prop := fnMapAcceptsOneTypeWhateverItHoldsRow.holds Try.pinned (OpenSpec.ofChange fnMapAcceptsOneTypeWhateverItHoldsWrong)

end Rows
end Go.Proofs.Qxb6609551a
