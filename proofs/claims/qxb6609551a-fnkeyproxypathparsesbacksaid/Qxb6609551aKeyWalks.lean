import Derived.Test.Qxb6609551aProg
import Derived.Test.Qxb6609551aPlain
import Derived.WalkKit
import Derived.WalkSpells
import Derived.Deep.QuietTactic
import Derived.BigQuiet
import Derived.WalkSmall
namespace Go.Proofs.Qxb6609551a
open Go.RowKit Plain

theorem ret_int {k : IntKind} {a b : Int} (h : a = b) : Ending.returned (.int k a) = .returned (.int k b) := by rw [h]

theorem more (s : ByteArray) (k : Nat) (hlt : k < s.size) (he : ((s[k].toNat : Int) == 47) = false) (hb : ∀ j (hj : j < s.size), j < k → s[j].toNat ≠ 47) :
    ∀ j (hj : j < s.size), j < k + 1 → s[j].toNat ≠ 47 := by
  intro j hj hlt2
  by_cases e : j = k
  · subst e
    intro hc
    rw [hc] at he
    simp at he
  · exact hb j hj (by omega)

set_option maxHeartbeats 400000 in
theorem index_any (s : ByteArray) (w : World) (hs : s.size ≤ 9223372036854775807) :
    Calls Try.prog 13 #[.string s, .int .u8 47] w fun e w' => e = .returned (.int .i64 (slash s)) ∧ w = w' := by
  go_enter Try.func13, Try.ntmps13
  go_wp2
  go_loop [5] (fun i => ∃ k : Nat, k ≤ s.size ∧ i = .int .i64 k ∧ Hid (∀ j (hj : j < s.size), j < k → s[j].toNat ≠ 47)) (fun i => s.size - (intOf i).toNat)
  case atStart => exact ⟨0, Nat.zero_le _, rfl, fun j hj h => absurd h (by omega)⟩
  case round =>
    obtain ⟨k, hk, rfl, hb⟩ := hrel
    by_cases hlt : k < s.size
    · go_wp2
      · have he : ((s[k].toNat : Int) == 47) = true := by assumption
        go_ret
        exact ⟨ret_int (slash_here s k hlt (by have := eq_of_beq he; omega) (fun j hj => hb.out j (by omega) hj)).symm, rfl⟩
      · have he : ((s[k].toNat : Int) == 47) = false := by assumption
        go_round
        case rel => exact ⟨k + 1, by omega, by go_num, more s k hlt he hb.out⟩
        case measure => simp [intOf]; omega
    · go_wp2
      go_ret
      exact ⟨ret_int (slash_gone s (fun j hj => hb.out j hj (by omega))).symm, rfl⟩

theorem scoped_in (b : Nat) (coll pr : ByteArray) (w : World) (hc1 : w.cell? ⟨b, 1, none⟩ = some (.string coll)) (hc2 : w.cell? ⟨b, 2, none⟩ = some (.bool true))
    (h1 : coll.size ≤ 262144) (h2 : pr.size ≤ 262144) :
    Calls Try.prog 25 #[.pointer (some ⟨b, 0, none⟩), .string pr] w fun e w' => e = .returned (.string (⟨#[112, 114, 111, 106, 101, 99, 116, 115, 47]⟩ ++ pr ++ ⟨#[47]⟩ ++ coll)) ∧ w' = w := by
  go_enter Try.func25, Try.ntmps25
  go_wp2
  go_ret
  exact ⟨rfl, rfl⟩

theorem scoped_out (b : Nat) (coll pr : ByteArray) (w : World) (hc1 : w.cell? ⟨b, 1, none⟩ = some (.string coll)) (hc2 : w.cell? ⟨b, 2, none⟩ = some (.bool false)) :
    Calls Try.prog 25 #[.pointer (some ⟨b, 0, none⟩), .string pr] w fun e w' => e = .returned (.string coll) ∧ w' = w := by
  go_enter Try.func25, Try.ntmps25
  go_wp2
  go_ret
  exact ⟨rfl, rfl⟩

theorem one_cell {w : World} {b o : Nat} {v : Value} (h : b < w.heap.size) (hc : w.cell? ⟨b, o, none⟩ = some v) (x : Obj) (n : Nat) :
    ((w.alloc x).drewN n).cell? ⟨b, o, none⟩ = some v := by
  have hb : Below w.heap.size w (w.alloc x) := (Below.refl _ w).alloc (Nat.le_refl _) _
  rw [World.cell?_drewN, hb.cell (p := ⟨b, o, none⟩) h]; exact hc

theorem grown_drewN {W w : World} (h : Grown W w) (n : Nat) : Grown W (w.drewN n) := h

set_option maxHeartbeats 400000 in
theorem path_in (b : Nat) (coll pr nm : ByteArray) (w : World) (hb : b < w.heap.size) (hc1 : w.cell? ⟨b, 1, none⟩ = some (.string coll)) (hc2 : w.cell? ⟨b, 2, none⟩ = some (.bool true))
    (h1 : coll.size ≤ 262144) (h2 : pr.size ≤ 262144) (h3 : nm.size ≤ 262144) :
    Calls Try.prog 18 #[.agg #[.pointer (some ⟨b, 0, none⟩), .string pr, .string nm]] w fun e w' => e = .returned (.string (path coll true pr nm)) ∧ Grown w w' ∧ Below w.heap.size w w' := by
  go_enter Try.func18, Try.ntmps18
  go_wp2
  go_quiet ((go_at_call 25; exact Calls.quiet_of_same (scoped_in b coll pr _ (by exact one_cell hb hc1 _ _) (by exact one_cell hb hc2 _ _) h1 h2)))
  go_wp2
  go_ret
  exact ⟨rfl, grown_drewN ((Grown.refl _).alloc _ _) _, below_drewN ((Below.refl _ _).alloc (Nat.le_refl _) _) _⟩

set_option maxHeartbeats 400000 in
theorem path_out (b : Nat) (coll pr nm : ByteArray) (w : World) (hb : b < w.heap.size) (hc1 : w.cell? ⟨b, 1, none⟩ = some (.string coll)) (hc2 : w.cell? ⟨b, 2, none⟩ = some (.bool false))
    (h1 : coll.size ≤ 262144) (h3 : nm.size ≤ 262144) :
    Calls Try.prog 18 #[.agg #[.pointer (some ⟨b, 0, none⟩), .string pr, .string nm]] w fun e w' => e = .returned (.string (path coll false pr nm)) ∧ Grown w w' ∧ Below w.heap.size w w' := by
  go_enter Try.func18, Try.ntmps18
  go_wp2
  go_quiet ((go_at_call 25; exact Calls.quiet_of_same (scoped_out b coll pr _ (by exact one_cell hb hc1 _ _) (by exact one_cell hb hc2 _ _))))
  go_wp2
  go_ret
  exact ⟨rfl, grown_drewN ((Grown.refl _).alloc _ _) _, below_drewN ((Below.refl _ _).alloc (Nat.le_refl _) _) _⟩

set_option maxHeartbeats 1000000 in
theorem bytes7 (a0 a1 : ByteArray) (a2 : Bool) (a3 a4 a5 a6 : ByteArray) (w : World) :
    Calls Try.prog 20 #[.string a0, .string a1, .bool a2, .string a3, .string a4, .string a5, .string a6] w fun e w' => (∃ b, e = .returned (.bool b)) ∧ w = w' := by
  go_enter Try.func20, Try.ntmps20
  go_wp2
  all_goals (go_ret; exact ⟨⟨_, rfl⟩, rfl⟩)

set_option maxHeartbeats 1000000 in
theorem bytes5 (a0 a1 : ByteArray) (a2 : Bool) (a3 a4 : ByteArray) (w : World) :
    Calls Try.prog 17 #[.string a0, .string a1, .bool a2, .string a3, .string a4] w fun e w' => (∃ b, e = .returned (.bool b)) ∧ w = w' := by
  go_enter Try.func17, Try.ntmps17
  go_wp2
  all_goals (go_ret; exact ⟨⟨_, rfl⟩, rfl⟩)

end Go.Proofs.Qxb6609551a
