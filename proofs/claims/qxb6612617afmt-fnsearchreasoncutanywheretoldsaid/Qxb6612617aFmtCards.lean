/-
  DERIVED. GIVEN WITH THE SEED: THE CARDS: each row of Qxb6612617aFmtRows.lean that lists a variable, with what it lists TIED to the program's text (the seventh form; the later family's looks); each row that meets fmt, with fmt's text TOLD by the authors' own Lean function (tested against real Go, not proved from fmt's source: count such statements apart). THE CARD IS WHAT COUNTS. Prove the row's statement (the work); the ties are given (Qxb6612617aFmtTie.lean); close each card by the builder's one call (the guide's Derived/Test/ToyasCard.lean, 'card_holds'). Laid BY PROGRAM, IN A SANDBOX (cutbox-door.mjs). By AI agents, Wed Nov 11 2026. No macro, syntax, notation, axiom, sorry.
-/
import Derived.Test.Qxb6612617aFmtRows
import GoSem.ClaimSeven
namespace Go.Proofs.Qxb6612617aFmt
namespace Rows

/-- THE TOLD CARD OF 'zzlaws_root_b1.FnSearchReasonSlots'. -/
def fnSearchReasonSlotsCard : Claim7 := { stood := { row := fnSearchReasonSlotsRow, standIns := [], harness := (true, "4d84d1a43e7c6dd6a2a522b90ed30b958ace8e28e24672dff1491fe7d6cc1f0d"), looks := false }, told := true, goes := false }
def FnSearchReasonSlotsToldSaid : Prop := Claim7.holds Tryf.pinned (.plain (OpenSpec.ofChange fnSearchReasonSlotsSpec)) fnSearchReasonSlotsCard
/-- ITS FALSE NEIGHBOUR. Refute it at one input. -/
def FnSearchReasonSlotsToldWrongFalsely : Prop := Claim7.holds Tryf.pinned (.plain (OpenSpec.ofChange fnSearchReasonSlotsWrong)) fnSearchReasonSlotsCard

/-- THE TOLD CARD OF 'zzlaws_root_b1.FnSearchReasonCutAnywhere'. -/
def fnSearchReasonCutAnywhereCard : Claim7 := { stood := { row := fnSearchReasonCutAnywhereRow, standIns := [], harness := (true, "4d84d1a43e7c6dd6a2a522b90ed30b958ace8e28e24672dff1491fe7d6cc1f0d"), looks := false }, told := true, goes := false }
def FnSearchReasonCutAnywhereToldSaid : Prop := Claim7.holds Tryf.pinned (.plain (OpenSpec.ofChange fnSearchReasonCutAnywhereSpec)) fnSearchReasonCutAnywhereCard
/-- ITS FALSE NEIGHBOUR. Refute it at one input. -/
def FnSearchReasonCutAnywhereToldWrongFalsely : Prop := Claim7.holds Tryf.pinned (.plain (OpenSpec.ofChange fnSearchReasonCutAnywhereWrong)) fnSearchReasonCutAnywhereCard
end Rows
end Go.Proofs.Qxb6612617aFmt
