import Derived.Test.Qxb6609551aSepWalk
namespace Go.Proofs.Qxb6609551a
open Go.RowKit Plain

set_option maxHeartbeats 4000000 in
theorem sep_main_out (bn : Bool) (a0 a1 a3 a4 a5 a6 : ByteArray) (w : World)
    (h0 : a0.size ≤ 131072) (h1 : a1.size ≤ 131072) (h3 : a3.size ≤ 131072) (h4 : a4.size ≤ 131072) (h5 : a5.size ≤ 131072) (h6 : a6.size ≤ 131072)
    (hn : (a4.toList == a6.toList) = bn)
    (he : ((path a1 false a3 a4).toList == (path a1 false a5 a6).toList) = bn) :
    Calls Try.prog 7 #[.string a0, .string a1, .bool false, .string a3, .string a4, .string a5, .string a6] w fun e w' => e = .returned (.bool true) ∧ Grown w w' := by
  have hz := size_path_out a1 a3 a4
  cases bn
  all_goals
    go_enter Try.func7, Try.ntmps7
    go_wp2_with (go_at_call 20; refine (bytes7 _ _ _ _ _ _ _ _).mono ?_; rintro e w' ⟨⟨b, rfl⟩, rfl⟩; cases b)
    · go_ret
      exact ⟨rfl, Grown.refl _⟩
    · refine (path_out w.heap.size a1 a3 a4 _ (by simp) (by simp [go_sem]) (by simp [go_sem]) (by omega) (by omega)).mono ?_
      rintro e w1 ⟨rfl, hg1, hb1⟩
      obtain ⟨c1, f1⟩ := bcell hb1
      have hz1 : w.heap.size < w1.heap.size := by have := hb1.size; simp at this; omega
      have q1 : w1.cell? ⟨w.heap.size, 1, none⟩ = some (.string a1) := by rw [c1 _ _ (by simp)]; simp [go_sem]
      have q2 : w1.cell? ⟨w.heap.size, 2, none⟩ = some (.bool false) := by rw [c1 _ _ (by simp)]; simp [go_sem]
      clear c1 f1
      go_wp2_with fail
      refine (path_out w.heap.size a1 a5 a6 _ hz1 q1 q2 (by omega) (by omega)).mono ?_
      rintro e w2 ⟨rfl, hg2, hb2⟩
      clear q1 q2 hb1 hb2
      go_wp2
      go_ret
      exact ⟨rfl, grown_trans (grown_trans ((Grown.refl _).alloc _ _) hg1) hg2⟩

set_option maxHeartbeats 1000000 in
theorem sep_slash1 (a0 a1 a3 a4 a5 a6 : ByteArray) (w : World)
    (h0 : a0.size ≤ 131072) (h1 : a1.size ≤ 131072) (h3 : a3.size ≤ 131072) (h4 : a4.size ≤ 131072) (h5 : a5.size ≤ 131072) (h6 : a6.size ≤ 131072) (s3 : 0 ≤ slash a3) :
    Calls Try.prog 7 #[.string a0, .string a1, .bool true, .string a3, .string a4, .string a5, .string a6] w fun e w' => e = .returned (.bool true) ∧ Grown w w' := by
  go_enter Try.func7, Try.ntmps7
  go_wp2_with (first
    | (go_at_call 20; refine (bytes7 _ _ _ _ _ _ _ _).mono ?_; rintro e w' ⟨⟨b, rfl⟩, rfl⟩; cases b)
    | (go_at_call 13; refine (index_any _ _ (by omega)).mono ?_; rintro e w' ⟨rfl, rfl⟩))
  all_goals (go_ret; exact ⟨rfl, Grown.refl _⟩)

set_option maxHeartbeats 1000000 in
theorem sep_slash2 (a0 a1 a3 a4 a5 a6 : ByteArray) (w : World)
    (h0 : a0.size ≤ 131072) (h1 : a1.size ≤ 131072) (h3 : a3.size ≤ 131072) (h4 : a4.size ≤ 131072) (h5 : a5.size ≤ 131072) (h6 : a6.size ≤ 131072) (s3 : slash a3 < 0) (s5 : 0 ≤ slash a5) :
    Calls Try.prog 7 #[.string a0, .string a1, .bool true, .string a3, .string a4, .string a5, .string a6] w fun e w' => e = .returned (.bool true) ∧ Grown w w' := by
  go_enter Try.func7, Try.ntmps7
  go_wp2_with (first
    | (go_at_call 20; refine (bytes7 _ _ _ _ _ _ _ _).mono ?_; rintro e w' ⟨⟨b, rfl⟩, rfl⟩; cases b)
    | (go_at_call 13; refine (index_any _ _ (by omega)).mono ?_; rintro e w' ⟨rfl, rfl⟩))
  all_goals (go_ret; exact ⟨rfl, Grown.refl _⟩)

set_option maxHeartbeats 4000000 in
theorem sep_big (a0 a1 : ByteArray) (a2 : Bool) (a3 a4 a5 a6 : ByteArray) (w : World)
    (h : 131072 < a0.size ∨ 131072 < a1.size ∨ 131072 < a3.size ∨ 131072 < a4.size ∨ 131072 < a5.size ∨ 131072 < a6.size) :
    Calls Try.prog 7 #[.string a0, .string a1, .bool a2, .string a3, .string a4, .string a5, .string a6] w fun e w' => e = .returned (.bool true) ∧ Grown w w' := by
  by_cases c0 : 131072 < a0.size
  · clear h
    go_enter Try.func7, Try.ntmps7
    go_wp2_with (go_at_call 20; refine (bytes7 _ _ _ _ _ _ _ _).mono ?_; rintro e w' ⟨⟨b, rfl⟩, rfl⟩; cases b)
    all_goals (go_ret; exact ⟨rfl, Grown.refl _⟩)
  by_cases c1 : 131072 < a1.size
  · clear h
    go_enter Try.func7, Try.ntmps7
    go_wp2_with (go_at_call 20; refine (bytes7 _ _ _ _ _ _ _ _).mono ?_; rintro e w' ⟨⟨b, rfl⟩, rfl⟩; cases b)
    all_goals (go_ret; exact ⟨rfl, Grown.refl _⟩)
  by_cases c3 : 131072 < a3.size
  · clear h
    go_enter Try.func7, Try.ntmps7
    go_wp2_with (go_at_call 20; refine (bytes7 _ _ _ _ _ _ _ _).mono ?_; rintro e w' ⟨⟨b, rfl⟩, rfl⟩; cases b)
    all_goals (go_ret; exact ⟨rfl, Grown.refl _⟩)
  by_cases c4 : 131072 < a4.size
  · clear h
    go_enter Try.func7, Try.ntmps7
    go_wp2_with (go_at_call 20; refine (bytes7 _ _ _ _ _ _ _ _).mono ?_; rintro e w' ⟨⟨b, rfl⟩, rfl⟩; cases b)
    all_goals (go_ret; exact ⟨rfl, Grown.refl _⟩)
  by_cases c5 : 131072 < a5.size
  · clear h
    go_enter Try.func7, Try.ntmps7
    go_wp2_with (go_at_call 20; refine (bytes7 _ _ _ _ _ _ _ _).mono ?_; rintro e w' ⟨⟨b, rfl⟩, rfl⟩; cases b)
    all_goals (go_ret; exact ⟨rfl, Grown.refl _⟩)
  have c6 : 131072 < a6.size := by omega
  clear h
  go_enter Try.func7, Try.ntmps7
  go_wp2_with (go_at_call 20; refine (bytes7 _ _ _ _ _ _ _ _).mono ?_; rintro e w' ⟨⟨b, rfl⟩, rfl⟩; cases b)
  all_goals (go_ret; exact ⟨rfl, Grown.refl _⟩)

theorem sep_walk (a0 a1 : ByteArray) (a2 : Bool) (a3 a4 a5 a6 : ByteArray) (w : World) :
    Calls Try.prog 7 #[.string a0, .string a1, .bool a2, .string a3, .string a4, .string a5, .string a6] w fun e w' => e = .returned (.bool true) ∧ Grown w w' := by
  by_cases h : 131072 < a0.size ∨ 131072 < a1.size ∨ 131072 < a3.size ∨ 131072 < a4.size ∨ 131072 < a5.size ∨ 131072 < a6.size
  · exact sep_big a0 a1 a2 a3 a4 a5 a6 w h
  · have h0 : a0.size ≤ 131072 := by omega
    have h1 : a1.size ≤ 131072 := by omega
    have h3 : a3.size ≤ 131072 := by omega
    have h4 : a4.size ≤ 131072 := by omega
    have h5 : a5.size ≤ 131072 := by omega
    have h6 : a6.size ≤ 131072 := by omega
    clear h
    cases a2
    · refine sep_main_out (a4.toList == a6.toList) a0 a1 a3 a4 a5 a6 w h0 h1 h3 h4 h5 h6 rfl ?_
      cases hn : (a4.toList == a6.toList)
      · exact path_out_differ hn
      · exact path_out_same hn
    · by_cases s3 : 0 ≤ slash a3
      · exact sep_slash1 a0 a1 a3 a4 a5 a6 w h0 h1 h3 h4 h5 h6 s3
      · by_cases s5 : 0 ≤ slash a5
        · exact sep_slash2 a0 a1 a3 a4 a5 a6 w h0 h1 h3 h4 h5 h6 (by omega) s5
        · refine sep_main_in (a3.toList == a5.toList) (a4.toList == a6.toList) a0 a1 a3 a4 a5 a6 w h0 h1 h3 h4 h5 h6 (by omega) (by omega) rfl rfl ?_
          cases hn : (a4.toList == a6.toList)
          · exact path_in_differ (by omega) (by omega) (Or.inr hn)
          · cases hp : (a3.toList == a5.toList)
            · exact path_in_differ (by omega) (by omega) (Or.inl hp)
            · exact path_in_same hp hn
end Go.Proofs.Qxb6609551a
