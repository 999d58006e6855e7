/-
  The walk of FnSearchReasonSlots, fmt's text told.
-/
import Derived.Test.Qxb6612617aFmtPlain
import Derived.Deep.QuietTactic
import Derived.BigQuiet
import Derived.WalkSmall
namespace Go.Proofs.Qxb6612617aFmt
open Go.RowKit Go.Extern.Stop Go.Stop Go.Extern Go.Kit

/-- the thin front of searchReason, fmt's text told -/
theorem reason_any (F : Interp) (r n h : ByteArray) (w : World) (hF : F.told.answers w.tape) (hr : r.size ≤ 262144) (hn : n.size ≤ 262144) (hh : h.size ≤ 262144) :
    Calls Tryf.prog 6 #[.string r, .string n, .string h] w fun e w' => e = .returned (.string (reason r n h)) ∧ Grown w w' ∧ w'.tape = w.tape := by
  go_enter Tryf.func6, Tryf.ntmps6
  go_wp2_with (go_at_call 8; refine (reason_low F.told _ _ _ _ hF).mono ?_; rintro e w' ⟨rfl, rfl⟩)
  go_ret
  exact ⟨by rw [told_reason F r n h hr hn hh]; rfl, ((Grown.refl _).alloc _ _).drew, rfl⟩

set_option maxHeartbeats 1000000 in
theorem bytes3 (a0 a1 a2 : ByteArray) (w : World) :
    Calls Tryf.prog 5 #[.string a0, .string a1, .string a2] w fun e w' => (∃ b, e = .returned (.bool b)) ∧ w = w' := by
  go_enter Tryf.func5, Tryf.ntmps5
  go_wp2
  all_goals (go_ret; exact ⟨⟨_, rfl⟩, rfl⟩)

theorem grown_two {a b c : World} (h : Grown a b) (k : Grown b c) : Grown a c :=
  ⟨World.keptBut_trans h.1 k.1, fun x => (k.2.1 x).trans (h.2.1 x), Nat.le_trans h.2.2 k.2.2⟩

theorem grown_drewN {W w : World} (h : Grown W w) (n : Nat) : Grown W (w.drewN n) := h

set_option maxHeartbeats 1000000 in
theorem slots_main (F : Interp) (a0 a1 a2 : ByteArray) (w : World) (hF : F.told.answers w.tape)
    (h0 : a0.size ≤ 262144) (h1 : a1.size ≤ 262144) (h2 : a2.size ≤ 262144) :
    Calls Tryf.prog 3 #[.string a0, .string a1, .string a2] w fun e w' => e = .returned (.bool true) ∧ Grown w w' := by
  obtain ⟨A, B, C, D, hA, hB, hC, hD, zB, zC, zD, zD', e1, e2, eD, e4⟩ := parts_slots a0 a1 a2 h1 h2
  have HF : Hid (F.told.answers w.tape) := hF
  have HA : Hid (A = reason a0 a1 a2) := hA
  have HB : Hid (B = reason ⟨#[]⟩ a1 a2) := hB
  have HC : Hid (C = reason ⟨#[]⟩ a1 ⟨#[]⟩) := hC
  have HD : Hid (D = reason ⟨#[]⟩ ⟨#[]⟩ ⟨#[]⟩) := hD
  have e3 : (D.toList == [32, 112, 114, 105, 110, 116, 115, 32, 116, 104, 101, 32, 108, 105, 110, 101, 115, 32, 111, 102, 32, 116, 104, 101, 32, 102, 105, 108, 101, 115, 32, 117, 110, 100, 101, 114, 32, 44, 32, 97, 109, 111, 110, 103, 32, 116, 104, 101, 109, 32]) = true := by rw [eD, ByteArray.toList_eq]; decide
  clear hF hA hB hC hD eD
  have z0 : (ByteArray.mk #[]).size ≤ 262144 := by decide
  go_enter Tryf.func3, Tryf.ntmps3
  go_wp2_with (go_at_call 5; refine (bytes3 _ _ _ _).mono ?_; rintro e w' ⟨⟨b, rfl⟩, rfl⟩; cases b)
  · go_ret
    exact ⟨rfl, Grown.refl _⟩
  · refine (reason_any F a0 a1 a2 w HF.out h0 h1 h2).mono ?_
    rintro e w1 ⟨rfl, g1, t1⟩
    rw [← HA.out]
    go_wp2_with fail
    refine (reason_any F ⟨#[]⟩ a1 a2 w1 (by rw [t1]; exact HF.out) z0 h1 h2).mono ?_
    rintro e w2 ⟨rfl, g2, t2⟩
    rw [← HB.out]
    go_wp2_with fail
    refine (reason_any F ⟨#[]⟩ a1 ⟨#[]⟩ w2 (by rw [t2, t1]; exact HF.out) z0 h1 z0).mono ?_
    rintro e w3 ⟨rfl, g3, t3⟩
    rw [← HC.out]
    go_wp2_with fail
    refine (reason_any F ⟨#[]⟩ ⟨#[]⟩ ⟨#[]⟩ w3 (by rw [t3, t2, t1]; exact HF.out) z0 z0 z0).mono ?_
    rintro e w4 ⟨rfl, g4, t4⟩
    rw [← HD.out]
    have hg := grown_two (grown_two (grown_two g1 g2) g3) g4
    clear t1 t2 t3 t4 g1 g2 g3 g4
    go_wp2_with fail
    go_quiet (fail)
    go_wp2
    go_ret
    exact ⟨rfl, grown_drewN hg _⟩

set_option maxHeartbeats 1000000 in
theorem slots_big (a0 a1 a2 : ByteArray) (w : World) (h : 262144 < a0.size ∨ 262144 < a1.size ∨ 262144 < a2.size) :
    Calls Tryf.prog 3 #[.string a0, .string a1, .string a2] w fun e w' => e = .returned (.bool true) ∧ Grown w w' := by
  by_cases c0 : 262144 < a0.size
  · clear h
    go_enter Tryf.func3, Tryf.ntmps3
    go_wp2_with (go_at_call 5; refine (bytes3 _ _ _ _).mono ?_; rintro e w' ⟨⟨b, rfl⟩, rfl⟩; cases b)
    all_goals (go_ret; exact ⟨rfl, Grown.refl _⟩)
  by_cases c1 : 262144 < a1.size
  · clear h
    go_enter Tryf.func3, Tryf.ntmps3
    go_wp2_with (go_at_call 5; refine (bytes3 _ _ _ _).mono ?_; rintro e w' ⟨⟨b, rfl⟩, rfl⟩; cases b)
    all_goals (go_ret; exact ⟨rfl, Grown.refl _⟩)
  have c2 : 262144 < a2.size := by omega
  clear h
  go_enter Tryf.func3, Tryf.ntmps3
  go_wp2_with (go_at_call 5; refine (bytes3 _ _ _ _).mono ?_; rintro e w' ⟨⟨b, rfl⟩, rfl⟩; cases b)
  all_goals (go_ret; exact ⟨rfl, Grown.refl _⟩)

theorem slots_walk (F : Interp) (a0 a1 a2 : ByteArray) (w : World) (hF : F.told.answers w.tape) :
    Calls Tryf.prog 3 #[.string a0, .string a1, .string a2] w fun e w' => e = .returned (.bool true) ∧ Grown w w' := by
  by_cases h : 262144 < a0.size ∨ 262144 < a1.size ∨ 262144 < a2.size
  · exact slots_big a0 a1 a2 w h
  · exact slots_main F a0 a1 a2 w hF (by omega) (by omega) (by omega)

end Go.Proofs.Qxb6612617aFmt
