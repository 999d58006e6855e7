/-
  searchReason's call of fmt.Sprintf: the closed facts that a walk over fmt's stopped front asks (after the guide's LabelFmt.lean, at this program's numbers), the text that FmtText gives for this one format, and the contract of searchReason.
-/
import Derived.Test.Qxb6612617aFmtProg
import Derived.Stop.CallBack
import Derived.Stop.IfaceNil
import Derived.Stop.Texts
import Derived.Stop.Told
import Derived.Stop.FmtQuoteTie
import Derived.Stop.FmtTextKit
import Derived.WalkKit
import Derived.WalkSpells
import GoSem.ClaimData
namespace Go.Proofs.Qxb6612617aFmt
open Go.RowKit Go.Extern.Stop Go.Stop Go.Extern Go.Kit

theorem call9 (args : Array Value) (w : World) : (callFunc 9 args).run Tryf.prog w = ((FmtStop.sprintf #[9, 42] #[9] args).run Tryf.prog w).andThen fun v w' => .ok (.value v) w' :=
  run_callFunc_extern Tryf.func9 (by kernel_rfl) (by kernel_rfl) (by kernel_rfl) (by kernel_rfl) args w
theorem guard (name : String) (w : World) : (FmtStop.guard name).run Tryf.prog w = .ok () w := by kernel_rfl
theorem fmt3 : FmtStop.printed? ⟨#[37, 115, 32, 112, 114, 105, 110, 116, 115, 32, 116, 104, 101, 32, 108, 105, 110, 101, 115, 32, 111, 102, 32, 116, 104, 101, 32, 102, 105, 108, 101, 115, 32, 117, 110, 100, 101, 114, 32, 37, 115, 44, 32, 97, 109, 111, 110, 103, 32, 116, 104, 101, 109, 32, 37, 115]⟩ 3 = some [(0, 115, false), (1, 115, false), (2, 115, false)] := by kernel_rfl
theorem fmt3r (w : World) : (FmtDoors.printed ⟨#[37, 115, 32, 112, 114, 105, 110, 116, 115, 32, 116, 104, 101, 32, 108, 105, 110, 101, 115, 32, 111, 102, 32, 116, 104, 101, 32, 102, 105, 108, 101, 115, 32, 117, 110, 100, 101, 114, 32, 37, 115, 44, 32, 97, 109, 111, 110, 103, 32, 116, 104, 101, 109, 32, 37, 115]⟩ 3).run Tryf.prog w = .ok [(0, 115, false), (1, 115, false), (2, 115, false)] w := by kernel_rfl
def shape9 : List UInt8 := [12, 6, 0, 0, 0, 0, 0, 0, 0, 115, 116, 114, 105, 110, 103]
theorem op9_115 (name : String) (x : ByteArray) (w : World) : (FmtStop.operand name false 115 false (.iface 9 (.string x))).run Tryf.prog w = .ok (shape9, FmtStop.pack x.data.toList) w := by kernel_rfl

/-- what fmt is asked -/
def reading (r n h : List UInt8) : List (List UInt8) :=
  [[37, 115, 32, 112, 114, 105, 110, 116, 115, 32, 116, 104, 101, 32, 108, 105, 110, 101, 115, 32, 111, 102, 32, 116, 104, 101, 32, 102, 105, 108, 101, 115, 32, 117, 110, 100, 101, 114, 32, 37, 115, 44, 32, 97, 109, 111, 110, 103, 32, 116, 104, 101, 109, 32, 37, 115], shape9, FmtStop.pack r, shape9, FmtStop.pack n, shape9, FmtStop.pack h]

theorem t_parse : (FmtText.parse [37, 115, 32, 112, 114, 105, 110, 116, 115, 32, 116, 104, 101, 32, 108, 105, 110, 101, 115, 32, 111, 102, 32, 116, 104, 101, 32, 102, 105, 108, 101, 115, 32, 117, 110, 100, 101, 114, 32, 37, 115, 44, 32, 97, 109, 111, 110, 103, 32, 116, 104, 101, 109, 32, 37, 115]).map FmtText.glue =
    some [.verb {} 115, .lit [32, 112, 114, 105, 110, 116, 115, 32, 116, 104, 101, 32, 108, 105, 110, 101, 115, 32, 111, 102, 32, 116, 104, 101, 32, 102, 105, 108, 101, 115, 32, 117, 110, 100, 101, 114, 32], .verb {} 115, .lit [44, 32, 97, 109, 111, 110, 103, 32, 116, 104, 101, 109, 32], .verb {} 115] := by rfl

/-- the text's two fixed pieces -/
def mid1 : List UInt8 := [32, 112, 114, 105, 110, 116, 115, 32, 116, 104, 101, 32, 108, 105, 110, 101, 115, 32, 111, 102, 32, 116, 104, 101, 32, 102, 105, 108, 101, 115, 32, 117, 110, 100, 101, 114, 32]
def mid2 : List UInt8 := [44, 32, 97, 109, 111, 110, 103, 32, 116, 104, 101, 109, 32]

def text (r n h : List UInt8) : List UInt8 := r ++ (mid1 ++ (n ++ (mid2 ++ h)))

theorem t_text (r n h : List UInt8) (hr : r.length < 2 ^ 64) (hn : n.length < 2 ^ 64) (hh : h.length < 2 ^ 64) : FmtText.text "fmt.Sprintf" (reading r n h) = some (text r n h) := by
  have e1 := FmtText.operand_str_at (sh := shape9) rfl rfl r hr
  have e2 := FmtText.operand_str_at (sh := shape9) rfl rfl n hn
  have e3 := FmtText.operand_str_at (sh := shape9) rfl rfl h hh
  rw [reading, FmtText.text_sprintf_glued t_parse (FmtText.operands_cons e1 (FmtText.operands_cons e2 (FmtText.operands_cons e3 FmtText.operands_nil)))]
  simp [FmtText.render, FmtText.printArg_s_str, text, mid1, mid2]

/-- what searchReason gives -/
def reason (r n h : ByteArray) : ByteArray := ⟨(text r.data.toList n.data.toList h.data.toList).toArray⟩

section
attribute [local go_sem] call9 guard fmt3 fmt3r op9_115

set_option maxHeartbeats 400000 in
theorem reason_low (F : Interp) (r n h : ByteArray) (w : World) (hF : F.answers w.tape) :
    Calls Tryf.prog 8 #[.string r, .string n, .string h] w fun e w' => e = .returned (.string (FmtStop.textOf (F "fmt.Sprintf" (reading r.data.toList n.data.toList h.data.toList) 0))) ∧
      w' = (w.alloc (.cells #[.iface 9 (.string r), .iface 9 (.string n), .iface 9 (.string h)] 20)).drew := by
  have hF' := answers_open hF
  go_enter Tryf.func8, Tryf.ntmps8
  go_wp2
  go_ret
  exact ⟨rfl, rfl⟩
end

theorem told_reason (F : Interp) (r n h : ByteArray) (hr : r.size ≤ 262144) (hn : n.size ≤ 262144) (hh : h.size ≤ 262144) :
    FmtStop.textOf (F.told "fmt.Sprintf" (reading r.data.toList n.data.toList h.data.toList) 0) = reason r n h := by
  have lr : r.data.toList.length = r.size := rfl
  have ln : n.data.toList.length = n.size := rfl
  have lh : h.data.toList.length = h.size := rfl
  have hl : (text r.data.toList n.data.toList h.data.toList).length < 2 ^ 63 := by
    simp only [text, List.length_append, lr, ln, lh]
    have : mid1.length = 37 := rfl
    have : mid2.length = 13 := rfl
    omega
  have ht := told_string F (t_text r.data.toList n.data.toList h.data.toList (by omega) (by omega) (by omega)) hl
  apply ByteArray.ext
  apply Array.toList_inj.1
  rw [textOf_list, ht]
  rfl

end Go.Proofs.Qxb6612617aFmt
