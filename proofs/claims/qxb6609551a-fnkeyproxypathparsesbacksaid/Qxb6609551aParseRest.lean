import Derived.Test.Qxb6609551aParseWalk
namespace Go.Proofs.Qxb6609551a
open Go.RowKit Plain

set_option maxHeartbeats 1000000 in
theorem parse_out (a0 a1 a3 a4 : ByteArray) (w : World)
    (h0 : a0.size ≤ 262144) (h1 : a1.size ≤ 262144) (h3 : a3.size ≤ 262144) (h4 : a4.size ≤ 262144) (s1 : slash a1 < 0) :
    Calls Try.prog 6 #[.string a0, .string a1, .bool false, .string a3, .string a4] w fun e w' => e = .returned (.bool true) ∧ Grown w w' := by
  go_enter Try.func6, Try.ntmps6
  go_wp2_with (first
    | (go_at_call 17; refine (bytes5 _ _ _ _ _ _).mono ?_; rintro e w' ⟨⟨b, rfl⟩, rfl⟩; cases b)
    | (go_at_call 13; refine (index_any _ _ (by omega)).mono ?_; rintro e w' ⟨rfl, rfl⟩))
  · go_ret
    exact ⟨rfl, Grown.refl _⟩
  · refine (key_any a0 a1 false a3 a4 w).mono ?_
    rintro e w1 ⟨b, rfl, hb, q1, q2, hg1⟩
    go_wp2_with fail
    obtain ⟨P, R3, hP, ⟨p1, p2, p3, p4⟩, ⟨n1, n2, n3, n4, n5⟩⟩ := parts_out a1 a3 a4 h1 h4 s1
    refine (path_out b a1 a3 a4 _ hb q1 q2 h1 h4).mono ?_
    rintro e w2 ⟨rfl, hg2, hb2⟩
    have hg := grown_two hg1 hg2
    rw [← hP]
    clear hP q1 q2 hb hb2 hg1 hg2
    go_wp2_with fail
    refine (proxy_yes P _ p1 p3).mono ?_
    rintro e w' ⟨rfl, rfl⟩
    go_wp2_with fail
    refine (index_any R3 _ (by omega)).mono ?_
    rintro e w' ⟨rfl, rfl⟩
    rw [n3]
    clear n3
    have e1 := same_self a1
    have e4 := same_self a4
    go_wp2
    go_ret
    exact ⟨rfl, hg⟩

set_option maxHeartbeats 1000000 in
theorem parse_slash1 (a0 a1 : ByteArray) (a2 : Bool) (a3 a4 : ByteArray) (w : World)
    (h0 : a0.size ≤ 262144) (h1 : a1.size ≤ 262144) (h3 : a3.size ≤ 262144) (h4 : a4.size ≤ 262144) (s1 : 0 ≤ slash a1) :
    Calls Try.prog 6 #[.string a0, .string a1, .bool a2, .string a3, .string a4] w fun e w' => e = .returned (.bool true) ∧ Grown w w' := by
  go_enter Try.func6, Try.ntmps6
  go_wp2_with (first
    | (go_at_call 17; refine (bytes5 _ _ _ _ _ _).mono ?_; rintro e w' ⟨⟨b, rfl⟩, rfl⟩; cases b)
    | (go_at_call 13; refine (index_any _ _ (by omega)).mono ?_; rintro e w' ⟨rfl, rfl⟩))
  all_goals (go_ret; exact ⟨rfl, Grown.refl _⟩)

set_option maxHeartbeats 1000000 in
theorem parse_slash3 (a0 a1 a3 a4 : ByteArray) (w : World)
    (h0 : a0.size ≤ 262144) (h1 : a1.size ≤ 262144) (h3 : a3.size ≤ 262144) (h4 : a4.size ≤ 262144) (s1 : slash a1 < 0) (s3 : 0 ≤ slash a3) :
    Calls Try.prog 6 #[.string a0, .string a1, .bool true, .string a3, .string a4] w fun e w' => e = .returned (.bool true) ∧ Grown w w' := by
  go_enter Try.func6, Try.ntmps6
  go_wp2_with (first
    | (go_at_call 17; refine (bytes5 _ _ _ _ _ _).mono ?_; rintro e w' ⟨⟨b, rfl⟩, rfl⟩; cases b)
    | (go_at_call 13; refine (index_any _ _ (by omega)).mono ?_; rintro e w' ⟨rfl, rfl⟩))
  all_goals (go_ret; exact ⟨rfl, Grown.refl _⟩)

set_option maxHeartbeats 4000000 in
theorem parse_big (a0 a1 : ByteArray) (a2 : Bool) (a3 a4 : ByteArray) (w : World)
    (h : 262144 < a0.size ∨ 262144 < a1.size ∨ 262144 < a3.size ∨ 262144 < a4.size) :
    Calls Try.prog 6 #[.string a0, .string a1, .bool a2, .string a3, .string a4] w fun e w' => e = .returned (.bool true) ∧ Grown w w' := by
  by_cases c0 : 262144 < a0.size
  · clear h
    go_enter Try.func6, Try.ntmps6
    go_wp2_with (go_at_call 17; refine (bytes5 _ _ _ _ _ _).mono ?_; rintro e w' ⟨⟨b, rfl⟩, rfl⟩; cases b)
    all_goals (go_ret; exact ⟨rfl, Grown.refl _⟩)
  by_cases c1 : 262144 < a1.size
  · clear h
    go_enter Try.func6, Try.ntmps6
    go_wp2_with (go_at_call 17; refine (bytes5 _ _ _ _ _ _).mono ?_; rintro e w' ⟨⟨b, rfl⟩, rfl⟩; cases b)
    all_goals (go_ret; exact ⟨rfl, Grown.refl _⟩)
  by_cases c3 : 262144 < a3.size
  · clear h
    go_enter Try.func6, Try.ntmps6
    go_wp2_with (go_at_call 17; refine (bytes5 _ _ _ _ _ _).mono ?_; rintro e w' ⟨⟨b, rfl⟩, rfl⟩; cases b)
    all_goals (go_ret; exact ⟨rfl, Grown.refl _⟩)
  have c4 : 262144 < a4.size := by omega
  clear h
  go_enter Try.func6, Try.ntmps6
  go_wp2_with (go_at_call 17; refine (bytes5 _ _ _ _ _ _).mono ?_; rintro e w' ⟨⟨b, rfl⟩, rfl⟩; cases b)
  all_goals (go_ret; exact ⟨rfl, Grown.refl _⟩)

theorem parse_walk (a0 a1 : ByteArray) (a2 : Bool) (a3 a4 : ByteArray) (w : World) :
    Calls Try.prog 6 #[.string a0, .string a1, .bool a2, .string a3, .string a4] w fun e w' => e = .returned (.bool true) ∧ Grown w w' := by
  by_cases h : 262144 < a0.size ∨ 262144 < a1.size ∨ 262144 < a3.size ∨ 262144 < a4.size
  · exact parse_big a0 a1 a2 a3 a4 w h
  · have h0 : a0.size ≤ 262144 := by omega
    have h1 : a1.size ≤ 262144 := by omega
    have h3 : a3.size ≤ 262144 := by omega
    have h4 : a4.size ≤ 262144 := by omega
    clear h
    by_cases s1 : 0 ≤ slash a1
    · exact parse_slash1 a0 a1 a2 a3 a4 w h0 h1 h3 h4 s1
    · cases a2
      · exact parse_out a0 a1 a3 a4 w h0 h1 h3 h4 (by omega)
      · by_cases s3 : 0 ≤ slash a3
        · exact parse_slash3 a0 a1 a3 a4 w h0 h1 h3 h4 (by omega) s3
        · exact parse_in a0 a1 a3 a4 w h0 h1 h3 h4 (by omega) (by omega)
end Go.Proofs.Qxb6609551a
