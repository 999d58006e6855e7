import Derived.Test.Qxb6609551aProg
import Derived.WalkKit
import Derived.WalkSpells
namespace Go.Proofs.Qxb6609551a
open Go.RowKit

theorem newmap (w : World) :
    Calls Try.prog 23 #[] w fun e w' => e = .returned (.agg #[.iface 24 (.agg #[])]) ∧ ∃ c, w' = w.alloc (.cells c 43) := by
  go_enter Try.func23, Try.ntmps23
  go_wp2
  refine bodyPost_ret (v := .agg #[.iface 24 (.agg #[])]) (by simp [results, Try.results23, go_sem]) rfl ⟨rfl, _, rfl⟩

theorem accepts (v : Value) (t : Int) (w : World) :
    Calls Try.prog 21 #[.agg #[v], .int .i64 t] w fun e w' => e = .returned (.bool (t == 5)) ∧ ∃ c c', w' = (w.alloc (.cells c 43)).alloc (.cells c' 43) := by
  go_enter Try.func21, Try.ntmps21
  go_wp2
  go_ret
  exact ⟨rfl, _, _, rfl⟩

theorem old_cell {w : World} {b o : Nat} {v : Value} (h : b < w.heap.size) (hc : w.cell? ⟨b, o, none⟩ = some v) (c c' : Array Value) (t t' : TypeId) :
    ((w.alloc (.cells c t)).alloc (.cells c' t')).cell? ⟨b, o, none⟩ = some v := by
  have hb : Below w.heap.size w ((w.alloc (.cells c t)).alloc (.cells c' t')) := ((Below.refl _ w).alloc (Nat.le_refl _) _).alloc (by simp) _
  rw [hb.cell (p := ⟨b, o, none⟩) h]; exact hc

set_option maxHeartbeats 400000 in
theorem map_walk (a0 : Int) (w : World) :
    Calls Try.prog 9 #[.int .i64 a0] w fun e w' => e = .returned (.bool true) ∧ Grown w w' := by
  go_enter Try.func9, Try.ntmps9
  go_wp2_with (go_at_call 23; refine (newmap _).mono ?_; rintro e w' ⟨rfl, c, rfl⟩)
  go_loopw [5, 6] (fun n u wr => ∃ k : Nat, k ≤ 6 ∧ u = .int .i64 k ∧ n = .int .i64 (if k = 6 then 1 else 0) ∧ Grown w wr ∧ w.heap.size + 3 ≤ wr.heap.size ∧
      wr.cell? ⟨w.heap.size, 0, none⟩ = some .nilIface ∧ wr.cell? ⟨w.heap.size + 1 + 1, 0, none⟩ = some (.iface 24 (.agg #[]))) (fun _ u _ => 6 - (intOf u).toNat)
  case atStart =>
    refine ⟨0, by omega, rfl, rfl, by repeat (first | exact Grown.refl _ | apply Grown.drew | apply Grown.alloc), by simp, ?_, ?_⟩
    · simp [go_sem]
    · simp [go_sem]
  case round =>
    obtain ⟨k, hk, rfl, rfl, hg, hs, h0, h2⟩ := hrel
    by_cases hlt : k < 6
    · by_cases h5 : k = 5
      · subst h5
        go_wp2_with (go_at_call 21; refine (accepts _ _ _).mono ?_; rintro e w' ⟨rfl, c1, c2, rfl⟩)
        go_roundw
        case rel => exact ⟨6, by omega, by go_num, by go_num, (hg.alloc _ _).alloc _ _, by simp; omega, old_cell (by omega) h0 _ _ _ _, old_cell (by omega) h2 _ _ _ _⟩
        case measure => simp [intOf]
      · have e5 : ((k : Int) == 5) = false := by simp; omega
        rw [if_neg (by omega)]
        go_wp2_with (go_at_call 21; refine (accepts _ _ _).mono ?_; rintro e w' ⟨rfl, c1, c2, rfl⟩)
        go_roundw
        case rel => exact ⟨k + 1, by omega, by go_num, by rw [if_neg (by omega)], (hg.alloc _ _).alloc _ _, by simp; omega, old_cell (by omega) h0 _ _ _ _, old_cell (by omega) h2 _ _ _ _⟩
        case measure => simp [intOf]; omega
    · have e6 : k = 6 := by omega
      subst e6
      clear hk hlt
      have g3 : w.heap.size + 1 + 1 < wr.heap.size := by omega
      have g4 : w.heap.size + 1 + 1 < wr.heap.size + 1 := by omega
      by_cases h5 : a0 = 5
      · subst h5
        go_wp2_with (go_at_call 21; refine (accepts _ _ _).mono ?_; rintro e w' ⟨rfl, c1, c2, rfl⟩)
        go_ret
        exact ⟨rfl, (((hg.alloc _ _).alloc _ _).alloc _ _).alloc _ _⟩
      · have e5 : (a0 == 5) = false := by simpa using h5
        by_cases h1 : 0 ≤ a0
        · by_cases h2 : a0 ≤ 5
          · go_wp2_with (go_at_call 21; refine (accepts _ _ _).mono ?_; rintro e w' ⟨rfl, c1, c2, rfl⟩)
            go_ret
            exact ⟨rfl, (((hg.alloc _ _).alloc _ _).alloc _ _).alloc _ _⟩
          · go_wp2_with (go_at_call 21; refine (accepts _ _ _).mono ?_; rintro e w' ⟨rfl, c1, c2, rfl⟩)
            go_ret
            exact ⟨rfl, (((hg.alloc _ _).alloc _ _).alloc _ _).alloc _ _⟩
        · go_wp2_with (go_at_call 21; refine (accepts _ _ _).mono ?_; rintro e w' ⟨rfl, c1, c2, rfl⟩)
          go_ret
          exact ⟨rfl, (((hg.alloc _ _).alloc _ _).alloc _ _).alloc _ _⟩
end Go.Proofs.Qxb6609551a
