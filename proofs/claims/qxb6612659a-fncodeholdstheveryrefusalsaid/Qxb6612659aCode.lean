/-
  The walk of the law on Code.
-/
import Derived.Test.Qxb6612659aCodeEq
import Derived.WalkKit
import Derived.WalkSpells
import Derived.Deep.QuietTactic
import Derived.BigQuiet
import Derived.WalkSmall
namespace Go.Proofs.Qxb6612659a.Code
open Go.RowKit

theorem code_any (t : ByteArray) (a : Addr) (w : World) :
    Calls Try.prog 12 #[.string t, .iface 31 (.pointer (some a))] w fun e w' => e = .returned (.iface 38 (.agg #[.iface 9 (.string t), .iface 31 (.pointer (some a))])) ∧ w = w' := by
  go_enter Try.func12, Try.ntmps12
  go_wp2
  go_ret
  exact ⟨rfl, rfl⟩

theorem as38 (v : Value) (w : World) : (Instr.typeAssert (.iface 38 v) 20 38 true).run Try.prog w = .ok (.tuple #[v, .bool true]) w := by kernel_rfl
theorem as9 (v : Value) (w : World) : (Instr.typeAssert (.iface 9 v) 20 9 true).run Try.prog w = .ok (.tuple #[v, .bool true]) w := by kernel_rfl
theorem as31 (v : Value) (w : World) : (Instr.typeAssert (.iface 31 v) 36 31 true).run Try.prog w = .ok (.tuple #[v, .bool true]) w := by kernel_rfl

theorem grown_drewN {W w : World} (h : Grown W w) (n : Nat) : Grown W (w.drewN n) := h

/-- two refusals, each in a new block of its own: the two codes differ -/
theorem other_at (t c m : ByteArray) (w : World) :
    (binOp .eql 20 (.iface 38 (.agg #[.iface 9 (.string t), .iface 31 (.pointer (some ⟨w.heap.size, 0, none⟩))])) (.iface 38 (.agg #[.iface 9 (.string t), .iface 31 (.pointer (some ⟨w.heap.size + 1, 0, none⟩))]))).run Try.prog
      ((w.alloc (.cells #[.string c, .string m] 33)).alloc (.cells #[.string c, .string m] 33)) = .ok (.bool false) ((w.alloc (.cells #[.string c, .string m] 33)).alloc (.cells #[.string c, .string m] 33)) := by
  refine eql_code_other t _ _ _ (ca := #[.string c, .string m]) (cb := #[.string c, .string m]) (ta := 33) (tb := 33) ?_ ?_ ?_
  · simp
  · show ((w.heap.push _).push _)[w.heap.size]? = _
    simp [Array.getElem?_push]
  · show ((w.heap.push _).push _)[w.heap.size + 1]? = _
    rw [Array.getElem?_push, if_pos (by simp)]

section
attribute [local go_sem] as38 as9 as31 neq_ptr_same

set_option maxHeartbeats 1000000 in
theorem pair_same (t c m : ByteArray) (w : World) :
    Calls Try.prog 11 #[.string t, .string t, .string c, .string m, .bool true] w fun e w' => e = .returned (.tuple #[.bool true, .bool true, .string t, .string c, .string m]) ∧ Grown w w' := by
  have he := fun (a : Addr) (wx : World) => eql_code_same t a wx
  go_enter Try.func11, Try.ntmps11
  go_wp2_with (go_at_call 12; refine (code_any _ _ _).mono ?_; rintro e w' ⟨rfl, rfl⟩)
  go_quiet (fail)
  go_wp2
  exact bodyPost_ret (v := .tuple #[.bool true, .bool true, .string t, .string c, .string m]) (by simp [results, Try.results11, go_sem]) rfl ⟨rfl, grown_drewN (((Grown.refl _).alloc _ _).alloc _ _) _⟩

set_option maxHeartbeats 1000000 in
theorem pair_other (t c m : ByteArray) (w : World) :
    Calls Try.prog 11 #[.string t, .string t, .string c, .string m, .bool false] w fun e w' => e = .returned (.tuple #[.bool false, .bool true, .string t, .string c, .string m]) ∧ Grown w w' := by
  have he := other_at t c m w
  go_enter Try.func11, Try.ntmps11
  go_wp2_with (go_at_call 12; refine (code_any _ _ _).mono ?_; rintro e w' ⟨rfl, rfl⟩)
  go_quiet (fail)
  go_wp2
  exact bodyPost_ret (v := .tuple #[.bool false, .bool true, .string t, .string c, .string m]) (by simp [results, Try.results11, go_sem]) rfl ⟨rfl, grown_drewN ((((Grown.refl _).alloc _ _).alloc _ _).alloc _ _) _⟩
end

set_option maxHeartbeats 1000000 in
theorem bytes_any (a0 a1 a2 : ByteArray) (b : Bool) (w : World) :
    Calls Try.prog 10 #[.string a0, .string a1, .string a2, .bool b] w fun e w' => (∃ b, e = .returned (.bool b)) ∧ w = w' := by
  go_enter Try.func10, Try.ntmps10
  go_wp2
  all_goals (go_ret; exact ⟨⟨_, rfl⟩, rfl⟩)

set_option maxHeartbeats 1000000 in
theorem main_same (a0 a1 a2 : ByteArray) (w : World) (h0 : a0.size ≤ 65536) (h1 : a1.size ≤ 65536) (h2 : a2.size ≤ 65536) :
    Calls Try.prog 5 #[.string a0, .string a1, .string a2, .bool true] w fun e w' => e = .returned (.bool true) ∧ Grown w w' := by
  go_enter Try.func5, Try.ntmps5
  go_wp2_with (go_at_call 10; refine (bytes_any _ _ _ _ _).mono ?_; rintro e w' ⟨⟨b, rfl⟩, rfl⟩; cases b)
  · go_ret
    exact ⟨rfl, Grown.refl _⟩
  · refine (pair_same a0 a1 a2 w).mono ?_
    rintro e w1 ⟨rfl, g1⟩
    go_wp2
    go_ret
    exact ⟨rfl, g1⟩

set_option maxHeartbeats 1000000 in
theorem main_other (a0 a1 a2 : ByteArray) (w : World) (h0 : a0.size ≤ 65536) (h1 : a1.size ≤ 65536) (h2 : a2.size ≤ 65536) :
    Calls Try.prog 5 #[.string a0, .string a1, .string a2, .bool false] w fun e w' => e = .returned (.bool true) ∧ Grown w w' := by
  go_enter Try.func5, Try.ntmps5
  go_wp2_with (go_at_call 10; refine (bytes_any _ _ _ _ _).mono ?_; rintro e w' ⟨⟨b, rfl⟩, rfl⟩; cases b)
  · go_ret
    exact ⟨rfl, Grown.refl _⟩
  · refine (pair_other a0 a1 a2 w).mono ?_
    rintro e w1 ⟨rfl, g1⟩
    go_wp2
    go_ret
    exact ⟨rfl, g1⟩

set_option maxHeartbeats 2000000 in
theorem big (a0 a1 a2 : ByteArray) (b : Bool) (w : World) (h : 65536 < a0.size ∨ 65536 < a1.size ∨ 65536 < a2.size) :
    Calls Try.prog 5 #[.string a0, .string a1, .string a2, .bool b] w fun e w' => e = .returned (.bool true) ∧ Grown w w' := by
  by_cases c0 : 65536 < a0.size
  · clear h
    go_enter Try.func5, Try.ntmps5
    go_wp2_with (go_at_call 10; refine (bytes_any _ _ _ _ _).mono ?_; rintro e w' ⟨⟨b, rfl⟩, rfl⟩; cases b)
    all_goals (go_ret; exact ⟨rfl, Grown.refl _⟩)
  by_cases c1 : 65536 < a1.size
  · clear h
    go_enter Try.func5, Try.ntmps5
    go_wp2_with (go_at_call 10; refine (bytes_any _ _ _ _ _).mono ?_; rintro e w' ⟨⟨b, rfl⟩, rfl⟩; cases b)
    all_goals (go_ret; exact ⟨rfl, Grown.refl _⟩)
  have c2 : 65536 < a2.size := by omega
  clear h
  go_enter Try.func5, Try.ntmps5
  go_wp2_with (go_at_call 10; refine (bytes_any _ _ _ _ _).mono ?_; rintro e w' ⟨⟨b, rfl⟩, rfl⟩; cases b)
  all_goals (go_ret; exact ⟨rfl, Grown.refl _⟩)

theorem code_walk (a0 a1 a2 : ByteArray) (b : Bool) (w : World) :
    Calls Try.prog 5 #[.string a0, .string a1, .string a2, .bool b] w fun e w' => e = .returned (.bool true) ∧ Grown w w' := by
  by_cases h : 65536 < a0.size ∨ 65536 < a1.size ∨ 65536 < a2.size
  · exact big a0 a1 a2 b w h
  · cases b
    · exact main_other a0 a1 a2 w (by omega) (by omega) (by omega)
    · exact main_same a0 a1 a2 w (by omega) (by omega) (by omega)

end Go.Proofs.Qxb6612659a.Code
