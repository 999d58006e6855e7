/-
  The walk of FnSearchReasonCutAnywhere, fmt's text told.
-/
import Derived.Test.Qxb6612617aFmtSlots
import Derived.Test.Qxb6612617aFmtCutPlain
import Derived.Deep.RegionWith
namespace Go.Proofs.Qxb6612617aFmt
open Go.RowKit Go.Extern.Stop Go.Stop Go.Extern Go.Kit

set_option maxHeartbeats 1000000 in
theorem bytes5 (a0 a1 a2 : ByteArray) (k1 k3 : Int) (w : World) :
    Calls Tryf.prog 7 #[.string a0, .string a1, .string a2, .int .i64 k1, .int .i64 k3] w fun e w' => (∃ b, e = .returned (.bool b)) ∧ w = w' := by
  go_enter Tryf.func7, Tryf.ntmps7
  go_wp2
  all_goals (go_ret; exact ⟨⟨_, rfl⟩, rfl⟩)

set_option maxHeartbeats 1000000 in
theorem cut_main (F : Interp) (a0 a1 a2 : ByteArray) (p q : Nat) (w : World) (hF : F.told.answers w.tape)
    (h0 : a0.size ≤ 262144) (h1 : a1.size ≤ 262144) (h2 : a2.size ≤ 262144) (hp : p ≤ a0.size) (hq : q ≤ a2.size) :
    Calls Tryf.prog 4 #[.string a0, .string a1, .string a2, .int .i64 p, .int .i64 q] w fun e w' => e = .returned (.bool true) ∧ Grown w w' := by
  obtain ⟨A, B, C, hA, hB, hC, zA, zB, zC, e0, e1, e2, e3⟩ := parts_cut a0 a1 a2 p q h0 h1 h2 hp
  have HF : Hid (F.told.answers w.tape) := hF
  have HA : Hid (A = reason a0 a1 a2) := hA
  have HB : Hid (B = reason (a0.extract p a0.size) a1 a2) := hB
  have HC : Hid (C = reason a0 a1 (a2.extract 0 q)) := hC
  clear hF hA hB hC
  have y0 := same_self a0
  have y1 := same_self a1
  go_enter Tryf.func4, Tryf.ntmps4
  go_wp2_with (go_at_call 7; refine (bytes5 _ _ _ _ _ _).mono ?_; rintro e w' ⟨⟨b, rfl⟩, rfl⟩; cases b)
  · go_ret
    exact ⟨rfl, Grown.refl _⟩
  · refine (reason_any F a0 a1 a2 w HF.out h0 h1 h2).mono ?_
    rintro e w1 ⟨rfl, g1, t1⟩
    rw [← HA.out]
    go_wp2_with fail
    have sB : (a0.extract p a0.size).size ≤ 262144 := by simp; omega
    have sC : (a2.extract 0 q).size ≤ 262144 := by simp; omega
    have hB : ∀ wx : World, wx.tape = w1.tape → Calls Tryf.prog 6 #[.string (a0.extract p a0.size), .string a1, .string a2] wx fun e w' => e = .returned (.string B) ∧ Grown wx w' ∧ w'.tape = wx.tape := by
      intro wx hx
      rw [HB.out]
      exact reason_any F _ a1 a2 wx (by rw [hx, t1]; exact HF.out) sB h1 h2
    have KB : Hid (∀ wx : World, wx.tape = w1.tape → Calls Tryf.prog 6 #[.string (a0.extract p a0.size), .string a1, .string a2] wx fun e w' => e = .returned (.string B) ∧ Grown wx w' ∧ w'.tape = wx.tape) := hB
    clear hB
    go_region_with (go_at_call 6; refine (KB.out _ ?_).mono ?_; exact rfl; rintro e w2 ⟨rfl, g2, t2⟩)
    clear KB
    go_wp2_with fail
    have hC : ∀ wx : World, wx.tape = w2.tape → Calls Tryf.prog 6 #[.string a0, .string a1, .string (a2.extract 0 q)] wx fun e w' => e = .returned (.string C) ∧ Grown wx w' ∧ w'.tape = wx.tape := by
      intro wx hx
      rw [HC.out]
      exact reason_any F a0 a1 _ wx (by rw [hx, t2]; show F.told.answers w1.tape; rw [t1]; exact HF.out) h0 h1 sC
    have KC : Hid (∀ wx : World, wx.tape = w2.tape → Calls Tryf.prog 6 #[.string a0, .string a1, .string (a2.extract 0 q)] wx fun e w' => e = .returned (.string C) ∧ Grown wx w' ∧ w'.tape = wx.tape) := hC
    clear hC
    go_region_with (go_at_call 6; refine (KC.out _ ?_).mono ?_; exact rfl; rintro e w3 ⟨rfl, g3, t3⟩)
    clear KC
    go_wp2
    go_ret
    exact ⟨rfl, grown_two (grown_two g1 (show Grown w1 w2 from g2)) (show Grown w2 _ from g3)⟩

end Go.Proofs.Qxb6612617aFmt
