/-
  The other ways through FnSearchReasonCutAnywhere, and its whole walk.
-/
import Derived.Test.Qxb6612617aFmtCut
namespace Go.Proofs.Qxb6612617aFmt
open Go.RowKit Go.Extern.Stop Go.Stop Go.Extern Go.Kit

set_option maxHeartbeats 1000000 in
theorem cut_big (a0 a1 a2 : ByteArray) (k1 k3 : Int) (w : World) (h : 262144 < a0.size ∨ 262144 < a1.size ∨ 262144 < a2.size) :
    Calls Tryf.prog 4 #[.string a0, .string a1, .string a2, .int .i64 k1, .int .i64 k3] w fun e w' => e = .returned (.bool true) ∧ Grown w w' := by
  by_cases c0 : 262144 < a0.size
  · clear h
    go_enter Tryf.func4, Tryf.ntmps4
    go_wp2_with (go_at_call 7; refine (bytes5 _ _ _ _ _ _).mono ?_; rintro e w' ⟨⟨b, rfl⟩, rfl⟩; cases b)
    all_goals (go_ret; exact ⟨rfl, Grown.refl _⟩)
  by_cases c1 : 262144 < a1.size
  · clear h
    go_enter Tryf.func4, Tryf.ntmps4
    go_wp2_with (go_at_call 7; refine (bytes5 _ _ _ _ _ _).mono ?_; rintro e w' ⟨⟨b, rfl⟩, rfl⟩; cases b)
    all_goals (go_ret; exact ⟨rfl, Grown.refl _⟩)
  have c2 : 262144 < a2.size := by omega
  clear h
  go_enter Tryf.func4, Tryf.ntmps4
  go_wp2_with (go_at_call 7; refine (bytes5 _ _ _ _ _ _).mono ?_; rintro e w' ⟨⟨b, rfl⟩, rfl⟩; cases b)
  all_goals (go_ret; exact ⟨rfl, Grown.refl _⟩)

set_option maxHeartbeats 2000000 in
theorem cut_out (a0 a1 a2 : ByteArray) (k1 k3 : Int) (w : World) (h0 : a0.size ≤ 262144) (h1 : a1.size ≤ 262144) (h2 : a2.size ≤ 262144)
    (h : k1 < 0 ∨ (a0.size : Int) < k1 ∨ k3 < 0 ∨ (a2.size : Int) < k3) :
    Calls Tryf.prog 4 #[.string a0, .string a1, .string a2, .int .i64 k1, .int .i64 k3] w fun e w' => e = .returned (.bool true) ∧ Grown w w' := by
  by_cases c0 : k1 < 0
  · clear h
    go_enter Tryf.func4, Tryf.ntmps4
    go_wp2_with (go_at_call 7; refine (bytes5 _ _ _ _ _ _).mono ?_; rintro e w' ⟨⟨b, rfl⟩, rfl⟩; cases b)
    all_goals (go_ret; exact ⟨rfl, Grown.refl _⟩)
  have d0 : 0 ≤ k1 := by omega
  by_cases c1 : (a0.size : Int) < k1
  · clear h
    go_enter Tryf.func4, Tryf.ntmps4
    go_wp2_with (go_at_call 7; refine (bytes5 _ _ _ _ _ _).mono ?_; rintro e w' ⟨⟨b, rfl⟩, rfl⟩; cases b)
    all_goals (go_ret; exact ⟨rfl, Grown.refl _⟩)
  have d1 : k1 ≤ (a0.size : Int) := by omega
  by_cases c2 : k3 < 0
  · clear h
    go_enter Tryf.func4, Tryf.ntmps4
    go_wp2_with (go_at_call 7; refine (bytes5 _ _ _ _ _ _).mono ?_; rintro e w' ⟨⟨b, rfl⟩, rfl⟩; cases b)
    all_goals (go_ret; exact ⟨rfl, Grown.refl _⟩)
  have d2 : 0 ≤ k3 := by omega
  have c3 : (a2.size : Int) < k3 := by omega
  clear h
  go_enter Tryf.func4, Tryf.ntmps4
  go_wp2_with (go_at_call 7; refine (bytes5 _ _ _ _ _ _).mono ?_; rintro e w' ⟨⟨b, rfl⟩, rfl⟩; cases b)
  all_goals (go_ret; exact ⟨rfl, Grown.refl _⟩)

theorem cut_walk (F : Interp) (a0 a1 a2 : ByteArray) (k1 k3 : Int) (w : World) (hF : F.told.answers w.tape) :
    Calls Tryf.prog 4 #[.string a0, .string a1, .string a2, .int .i64 k1, .int .i64 k3] w fun e w' => e = .returned (.bool true) ∧ Grown w w' := by
  by_cases h : 262144 < a0.size ∨ 262144 < a1.size ∨ 262144 < a2.size
  · exact cut_big a0 a1 a2 k1 k3 w h
  · by_cases g : k1 < 0 ∨ (a0.size : Int) < k1 ∨ k3 < 0 ∨ (a2.size : Int) < k3
    · exact cut_out a0 a1 a2 k1 k3 w (by omega) (by omega) (by omega) g
    · obtain ⟨p, rfl⟩ : ∃ p : Nat, k1 = p := ⟨k1.toNat, by omega⟩
      obtain ⟨q, rfl⟩ : ∃ q : Nat, k3 = q := ⟨k3.toNat, by omega⟩
      exact cut_main F a0 a1 a2 p q w hF (by omega) (by omega) (by omega) (by omega) (by omega)

end Go.Proofs.Qxb6612617aFmt
