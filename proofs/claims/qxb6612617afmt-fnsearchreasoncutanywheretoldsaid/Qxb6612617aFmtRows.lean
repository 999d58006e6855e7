/-
  No cell of these rows narrows 'for every input' (looked for: loops, veiled, ifaces, maps, wideKeys, modest, calm, conditions, laid).
  DERIVED. THE GIVEN ROWS OF THIS SEAT. 2 by the template 'for every input the law returns true; each argument reads behind the call as it read before'; 0 by the template 'total and deterministic' (their statements: Qxb6612617aFmtTotals.lean).
  GIVEN WITH THE SEED: the statements are not yours to turn. If you find one false, say at which input.
  Laid BY PROGRAM, IN A SANDBOX (cutbox-rows.mjs): the forced cells as the released guide's own fill.sh prints them over the translation 0f4ac4b52c5d05ce… (all of the seat's roots in one cut). By AI agents, Wed Nov 11 2026. No macro, syntax, notation, axiom, sorry.
-/
import Derived.Test.Qxb6612617aFmtChecked
import GoSem.Claim
import GoSem.ClaimJoined
import GoSem.ClaimMapViews
import Derived.JoinedTies
import Derived.KernelRfl
namespace Go.Proofs.Qxb6612617aFmt
/- THE CELL 'sum', in the pinned program and in every row, IS THE sha256 OF THE DUMP (.gsa) THAT Qxb6612617aFmtProg.lean LOADS. Nothing in Lean hashes anything: it is a label: what it is worth is what the hold of that sum in a sandbox is worth. -/
noncomputable def Tryf.pinned : Pinned := { name := "qxb6612617afmt", sum := "0f4ac4b52c5d05ce704b0da1ce28d0e01c44fc2c4d9df7a66825bc9606457b41", checked := Tryf.checked }
namespace Rows
def none {H : Type} : Left H := { results := [], args := [] }

/-- 'zzlaws_root_b1.FnSearchReasonSlots': WHATEVER THE INPUT: true; the input reads as it did. -/
def fnSearchReasonSlotsSpec : ChangeSpec := { name := "fnSearchReasonSlots", fn := fun _ => fun
  | [d1, d2, d3] => { results := [.lit (.bool true)], args := [d1, d2, d3] }
  | _ => none }
def fnSearchReasonSlotsRow : OpenClaim := { program := "qxb6612617afmt", sum := "0f4ac4b52c5d05ce704b0da1ce28d0e01c44fc2c4d9df7a66825bc9606457b41", func := "example.com/portcullis/portcullis/zzlaws_root_b1.FnSearchReasonSlots", spec := "fnSearchReasonSlots", stops := ["fmt.Sprintf"], inPlace := ["fmt.Sprintf"], apart := false }
/-- NO THEOREM (fmt's text is open here; it may be false): for the released tool's asking of the row's closed facts alone. THE STATEMENT IS 'FnSearchReasonSlotsToldSaid' (Qxb6612617aFmtCards.lean). -/
def FnSearchReasonSlotsFormAsk : Prop := fnSearchReasonSlotsRow.holds Tryf.pinned (OpenSpec.ofChange fnSearchReasonSlotsSpec)

/-- ITS FALSE NEIGHBOUR: 'it returns false'. Refute it at one input. -/
def fnSearchReasonSlotsWrong : ChangeSpec := { name := "fnSearchReasonSlots", fn := fun _ => fun
  | [d1, d2, d3] => { results := [.lit (.bool false)], args := [d1, d2, d3] }
  | _ => none }
def FnSearchReasonSlotsWrongFormAsk : Prop := fnSearchReasonSlotsRow.holds Tryf.pinned (OpenSpec.ofChange fnSearchReasonSlotsWrong)

/-- 'zzlaws_root_b1.FnSearchReasonCutAnywhere': WHATEVER THE INPUT: true; the input reads as it did. -/
def fnSearchReasonCutAnywhereSpec : ChangeSpec := { name := "fnSearchReasonCutAnywhere", fn := fun _ => fun
  | [d1, d2, d3, d4, d5] => { results := [.lit (.bool true)], args := [d1, d2, d3, d4, d5] }
  | _ => none }
def fnSearchReasonCutAnywhereRow : OpenClaim := { program := "qxb6612617afmt", sum := "0f4ac4b52c5d05ce704b0da1ce28d0e01c44fc2c4d9df7a66825bc9606457b41", func := "example.com/portcullis/portcullis/zzlaws_root_b1.FnSearchReasonCutAnywhere", spec := "fnSearchReasonCutAnywhere", stops := ["fmt.Sprintf"], inPlace := ["fmt.Sprintf"], apart := false }
/-- NO THEOREM (fmt's text is open here; it may be false): for the released tool's asking of the row's closed facts alone. THE STATEMENT IS 'FnSearchReasonCutAnywhereToldSaid' (Qxb6612617aFmtCards.lean). -/
def FnSearchReasonCutAnywhereFormAsk : Prop := fnSearchReasonCutAnywhereRow.holds Tryf.pinned (OpenSpec.ofChange fnSearchReasonCutAnywhereSpec)

/-- ITS FALSE NEIGHBOUR: 'it returns false'. Refute it at one input. -/
def fnSearchReasonCutAnywhereWrong : ChangeSpec := { name := "fnSearchReasonCutAnywhere", fn := fun _ => fun
  | [d1, d2, d3, d4, d5] => { results := [.lit (.bool false)], args := [d1, d2, d3, d4, d5] }
  | _ => none }
def FnSearchReasonCutAnywhereWrongFormAsk : Prop := fnSearchReasonCutAnywhereRow.holds Tryf.pinned (OpenSpec.ofChange fnSearchReasonCutAnywhereWrong)

end Rows
end Go.Proofs.Qxb6612617aFmt
