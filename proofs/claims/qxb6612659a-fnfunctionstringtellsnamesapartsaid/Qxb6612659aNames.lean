/-
  The walks of the two laws on Function.String.
-/
import Derived.Test.Qxb6612659aProg
import Derived.Test.Qxb6612659aPlain
import Derived.WalkKit
import Derived.WalkSpells
namespace Go.Proofs.Qxb6612659a
open Go.RowKit Plain

theorem grown_two {a b c : World} (h : Grown a b) (k : Grown b c) : Grown a c :=
  ⟨World.keptBut_trans h.1 k.1, fun x => (k.2.1 x).trans (h.2.1 x), Nat.le_trans h.2.2 k.2.2⟩

theorem str_any (n s : ByteArray) (w : World) (h : n.size ≤ 65536) :
    Calls Try.prog 7 #[.agg #[.string n, .string s]] w fun e w' => e = .returned (.string (fs n)) ∧ Grown w w' := by
  go_enter Try.func7, Try.ntmps7
  go_wp2
  go_ret
  exact ⟨rfl, (Grown.refl _).alloc _ _⟩

set_option maxHeartbeats 1000000 in
theorem bytes_cut (a0 a1 a2 : ByteArray) (k : Int) (w : World) :
    Calls Try.prog 6 #[.string a0, .string a1, .string a2, .int .i64 k] w fun e w' => (∃ b, e = .returned (.bool b)) ∧ w = w' := by
  go_enter Try.func6, Try.ntmps6
  go_wp2
  all_goals (go_ret; exact ⟨⟨_, rfl⟩, rfl⟩)

set_option maxHeartbeats 1000000 in
theorem bytes_four (a0 a1 a2 a3 : ByteArray) (w : World) :
    Calls Try.prog 8 #[.string a0, .string a1, .string a2, .string a3] w fun e w' => (∃ b, e = .returned (.bool b)) ∧ w = w' := by
  go_enter Try.func8, Try.ntmps8
  go_wp2
  all_goals (go_ret; exact ⟨⟨_, rfl⟩, rfl⟩)

/-- endsWith, where it says yes -/
theorem ends_yes (s t : ByteArray) (w : World) (hs : s.size ≤ 1000000) (h : t.size ≤ s.size) (he : s.extract (s.size - t.size) s.size = t) :
    Calls Try.prog 9 #[.string s, .string t] w fun e w' => e = .returned (.bool true) ∧ w = w' := by
  have e1 : ((s.extract (s.size - t.size) s.size).toList == t.toList) = true := by rw [he]; exact same_self t
  clear he
  go_enter Try.func9, Try.ntmps9
  go_wp2
  go_ret
  exact ⟨rfl, rfl⟩

set_option maxHeartbeats 1000000 in
theorem cut_main (a0 a1 a2 : ByteArray) (p : Nat) (w : World) (h0 : a0.size ≤ 65536) (h1 : a1.size ≤ 65536) (h2 : a2.size ≤ 65536) (hp : p ≤ a0.size) :
    Calls Try.prog 3 #[.string a0, .string a1, .string a2, .int .i64 p] w fun e w' => e = .returned (.bool true) ∧ Grown w w' := by
  obtain ⟨A, B, C, hA, hB, hC, zB, zC, zC', e1, e2⟩ := parts_cut a0 p h0
  have HA : Hid (A = fs a0) := hA
  have HB : Hid (B = fs (a0.extract 0 p)) := hB
  have HC : Hid (C = fs ⟨#[]⟩) := hC
  clear hA hB hC
  have sB : (a0.extract 0 p).size ≤ 65536 := by simp; omega
  have sC : (ByteArray.mk #[]).size ≤ 65536 := by decide
  go_enter Try.func3, Try.ntmps3
  go_wp2_with (go_at_call 6; refine (bytes_cut _ _ _ _ _).mono ?_; rintro e w' ⟨⟨b, rfl⟩, rfl⟩; cases b)
  · go_ret
    exact ⟨rfl, Grown.refl _⟩
  · refine (str_any a0 a1 w h0).mono ?_
    rintro e w1 ⟨rfl, g1⟩
    rw [← HA.out]
    go_wp2_with fail
    refine (str_any (a0.extract 0 p) a2 w1 sB).mono ?_
    rintro e w2 ⟨rfl, g2⟩
    rw [← HB.out]
    go_wp2_with fail
    refine (str_any ⟨#[]⟩ a2 w2 sC).mono ?_
    rintro e w3 ⟨rfl, g3⟩
    rw [← HC.out]
    go_wp2
    go_ret
    exact ⟨rfl, grown_two (grown_two g1 g2) g3⟩

set_option maxHeartbeats 2000000 in
theorem cut_big (a0 a1 a2 : ByteArray) (k : Int) (w : World) (h : 65536 < a0.size ∨ 65536 < a1.size ∨ 65536 < a2.size) :
    Calls Try.prog 3 #[.string a0, .string a1, .string a2, .int .i64 k] w fun e w' => e = .returned (.bool true) ∧ Grown w w' := by
  by_cases c0 : 65536 < a0.size
  · clear h
    go_enter Try.func3, Try.ntmps3
    go_wp2_with (go_at_call 6; refine (bytes_cut _ _ _ _ _).mono ?_; rintro e w' ⟨⟨b, rfl⟩, rfl⟩; cases b)
    all_goals (go_ret; exact ⟨rfl, Grown.refl _⟩)
  by_cases c1 : 65536 < a1.size
  · clear h
    go_enter Try.func3, Try.ntmps3
    go_wp2_with (go_at_call 6; refine (bytes_cut _ _ _ _ _).mono ?_; rintro e w' ⟨⟨b, rfl⟩, rfl⟩; cases b)
    all_goals (go_ret; exact ⟨rfl, Grown.refl _⟩)
  have c2 : 65536 < a2.size := by omega
  clear h
  go_enter Try.func3, Try.ntmps3
  go_wp2_with (go_at_call 6; refine (bytes_cut _ _ _ _ _).mono ?_; rintro e w' ⟨⟨b, rfl⟩, rfl⟩; cases b)
  all_goals (go_ret; exact ⟨rfl, Grown.refl _⟩)

set_option maxHeartbeats 2000000 in
theorem cut_out (a0 a1 a2 : ByteArray) (k : Int) (w : World) (h0 : a0.size ≤ 65536) (h1 : a1.size ≤ 65536) (h2 : a2.size ≤ 65536) (h : k < 0 ∨ (a0.size : Int) < k) :
    Calls Try.prog 3 #[.string a0, .string a1, .string a2, .int .i64 k] w fun e w' => e = .returned (.bool true) ∧ Grown w w' := by
  by_cases c0 : k < 0
  · clear h
    go_enter Try.func3, Try.ntmps3
    go_wp2_with (go_at_call 6; refine (bytes_cut _ _ _ _ _).mono ?_; rintro e w' ⟨⟨b, rfl⟩, rfl⟩; cases b)
    all_goals (go_ret; exact ⟨rfl, Grown.refl _⟩)
  have d0 : 0 ≤ k := by omega
  have c1 : (a0.size : Int) < k := by omega
  clear h c0
  go_enter Try.func3, Try.ntmps3
  go_wp2_with (go_at_call 6; refine (bytes_cut _ _ _ _ _).mono ?_; rintro e w' ⟨⟨b, rfl⟩, rfl⟩; cases b)
  all_goals (go_ret; exact ⟨rfl, Grown.refl _⟩)

theorem cut_walk (a0 a1 a2 : ByteArray) (k : Int) (w : World) :
    Calls Try.prog 3 #[.string a0, .string a1, .string a2, .int .i64 k] w fun e w' => e = .returned (.bool true) ∧ Grown w w' := by
  by_cases h : 65536 < a0.size ∨ 65536 < a1.size ∨ 65536 < a2.size
  · exact cut_big a0 a1 a2 k w h
  · by_cases g : k < 0 ∨ (a0.size : Int) < k
    · exact cut_out a0 a1 a2 k w (by omega) (by omega) (by omega) g
    · obtain ⟨p, rfl⟩ : ∃ p : Nat, k = p := ⟨k.toNat, by omega⟩
      exact cut_main a0 a1 a2 p w (by omega) (by omega) (by omega) (by omega)

set_option maxHeartbeats 2000000 in
theorem apart_main (b : Bool) (a0 a1 a2 a3 : ByteArray) (w : World) (h0 : a0.size ≤ 65536) (h1 : a1.size ≤ 65536) (h2 : a2.size ≤ 65536) (h3 : a3.size ≤ 65536)
    (hn : (a0.toList == a2.toList) = b) :
    Calls Try.prog 4 #[.string a0, .string a1, .string a2, .string a3] w fun e w' => e = .returned (.bool true) ∧ Grown w w' := by
  obtain ⟨A, hA⟩ : ∃ A, A = fs a0 := ⟨_, rfl⟩
  obtain ⟨B, hB⟩ : ∃ B, B = fs a2 := ⟨_, rfl⟩
  have he : (A.toList == B.toList) = b := by rw [hA, hB, same_fs, hn]
  have xA : A.extract (A.size - a0.size) A.size = a0 := by rw [hA]; exact ends_fs a0
  have xB : B.extract (B.size - a2.size) B.size = a2 := by rw [hB]; exact ends_fs a2
  have zA : a0.size < A.size ∧ A.size ≤ 1000000 := by rw [hA, size_fs]; omega
  have zB : a2.size < B.size ∧ B.size ≤ 1000000 := by rw [hB, size_fs]; omega
  obtain ⟨zA, zA'⟩ := zA
  obtain ⟨zB, zB'⟩ := zB
  have XA : Hid (A.extract (A.size - a0.size) A.size = a0) := xA
  have XB : Hid (B.extract (B.size - a2.size) B.size = a2) := xB
  have HA : Hid (A = fs a0) := hA
  have HB : Hid (B = fs a2) := hB
  clear hA hB xA xB
  cases b
  all_goals
    go_enter Try.func4, Try.ntmps4
    go_wp2_with (go_at_call 8; refine (bytes_four _ _ _ _ _).mono ?_; rintro e w' ⟨⟨b, rfl⟩, rfl⟩; cases b)
    · go_ret
      exact ⟨rfl, Grown.refl _⟩
    · refine (str_any a0 a1 w h0).mono ?_
      rintro e w1 ⟨rfl, g1⟩
      rw [← HA.out]
      go_wp2_with fail
      refine (str_any a2 a3 w1 h2).mono ?_
      rintro e w2 ⟨rfl, g2⟩
      rw [← HB.out]
      go_wp2_with fail
      refine (ends_yes A a0 w2 zA' (by omega) XA.out).mono ?_
      rintro e w' ⟨rfl, rfl⟩
      go_wp2_with fail
      refine (ends_yes B a2 w2 zB' (by omega) XB.out).mono ?_
      rintro e w' ⟨rfl, rfl⟩
      go_wp2
      go_ret
      exact ⟨rfl, grown_two g1 g2⟩

set_option maxHeartbeats 2000000 in
theorem apart_big (a0 a1 a2 a3 : ByteArray) (w : World) (h : 65536 < a0.size ∨ 65536 < a1.size ∨ 65536 < a2.size ∨ 65536 < a3.size) :
    Calls Try.prog 4 #[.string a0, .string a1, .string a2, .string a3] w fun e w' => e = .returned (.bool true) ∧ Grown w w' := by
  by_cases c0 : 65536 < a0.size
  · clear h
    go_enter Try.func4, Try.ntmps4
    go_wp2_with (go_at_call 8; refine (bytes_four _ _ _ _ _).mono ?_; rintro e w' ⟨⟨b, rfl⟩, rfl⟩; cases b)
    all_goals (go_ret; exact ⟨rfl, Grown.refl _⟩)
  by_cases c1 : 65536 < a1.size
  · clear h
    go_enter Try.func4, Try.ntmps4
    go_wp2_with (go_at_call 8; refine (bytes_four _ _ _ _ _).mono ?_; rintro e w' ⟨⟨b, rfl⟩, rfl⟩; cases b)
    all_goals (go_ret; exact ⟨rfl, Grown.refl _⟩)
  by_cases c2 : 65536 < a2.size
  · clear h
    go_enter Try.func4, Try.ntmps4
    go_wp2_with (go_at_call 8; refine (bytes_four _ _ _ _ _).mono ?_; rintro e w' ⟨⟨b, rfl⟩, rfl⟩; cases b)
    all_goals (go_ret; exact ⟨rfl, Grown.refl _⟩)
  have c3 : 65536 < a3.size := by omega
  clear h
  go_enter Try.func4, Try.ntmps4
  go_wp2_with (go_at_call 8; refine (bytes_four _ _ _ _ _).mono ?_; rintro e w' ⟨⟨b, rfl⟩, rfl⟩; cases b)
  all_goals (go_ret; exact ⟨rfl, Grown.refl _⟩)

theorem apart_walk (a0 a1 a2 a3 : ByteArray) (w : World) :
    Calls Try.prog 4 #[.string a0, .string a1, .string a2, .string a3] w fun e w' => e = .returned (.bool true) ∧ Grown w w' := by
  by_cases h : 65536 < a0.size ∨ 65536 < a1.size ∨ 65536 < a2.size ∨ 65536 < a3.size
  · exact apart_big a0 a1 a2 a3 w h
  · exact apart_main _ a0 a1 a2 a3 w (by omega) (by omega) (by omega) (by omega) rfl

end Go.Proofs.Qxb6612659a
