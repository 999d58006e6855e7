import Derived.Test.Qxb6609551aKeyWalks
import Derived.Test.Qxb6609551aPlain3
namespace Go.Proofs.Qxb6609551a
open Go.RowKit Plain

/-- zzKey: a Kind in new memory, and the key that points to it -/
theorem key_any (a0 a1 : ByteArray) (a2 : Bool) (a3 a4 : ByteArray) (w : World) :
    Calls Try.prog 14 #[.string a0, .string a1, .bool a2, .string a3, .string a4] w fun e w' => ∃ b, e = .returned (.agg #[.pointer (some ⟨b, 0, none⟩), .string a3, .string a4]) ∧
      b < w'.heap.size ∧ w'.cell? ⟨b, 1, none⟩ = some (.string a1) ∧ w'.cell? ⟨b, 2, none⟩ = some (.bool a2) ∧ Grown w w' := by
  go_enter Try.func14, Try.ntmps14
  go_wp2
  refine bodyPost_ret (v := .agg #[.pointer (some ⟨w.heap.size + 1, 0, none⟩), .string a3, .string a4]) (by simp [results, Try.results14, go_sem]) rfl ⟨_, rfl, ?_, ?_, ?_, ?_⟩
  · simp
  · simp [go_sem]
  · simp [go_sem]
  · exact ((Grown.refl _).alloc _ _).alloc _ _

/-- zzHasPrefix, where it says yes -/
theorem prefix_yes (s p : ByteArray) (w : World) (h : p.size ≤ s.size) (he : s.extract 0 p.size = p) :
    Calls Try.prog 19 #[.string s, .string p] w fun e w' => e = .returned (.bool true) ∧ w = w' := by
  have e1 := same_self p
  go_enter Try.func19, Try.ntmps19
  go_wp2
  go_ret
  exact ⟨rfl, rfl⟩

theorem proxy_yes (s : ByteArray) (w : World) (h : 7 ≤ s.size) (he : s.extract 0 7 = ⟨#[47, 112, 114, 111, 120, 121, 47]⟩) :
    Calls Try.prog 19 #[.string s, .string ⟨#[47, 112, 114, 111, 120, 121, 47]⟩] w fun e w' => e = .returned (.bool true) ∧ w = w' :=
  prefix_yes s ⟨#[47, 112, 114, 111, 120, 121, 47]⟩ w h he

theorem projects_yes (s : ByteArray) (w : World) (h : 9 ≤ s.size) (he : s.extract 0 9 = ⟨#[112, 114, 111, 106, 101, 99, 116, 115, 47]⟩) :
    Calls Try.prog 19 #[.string s, .string ⟨#[112, 114, 111, 106, 101, 99, 116, 115, 47]⟩] w fun e w' => e = .returned (.bool true) ∧ w = w' :=
  prefix_yes s ⟨#[112, 114, 111, 106, 101, 99, 116, 115, 47]⟩ w h he

theorem grown_two {a b c : World} (h : Grown a b) (k : Grown b c) : Grown a c :=
  ⟨World.keptBut_trans h.1 k.1, fun x => (k.2.1 x).trans (h.2.1 x), Nat.le_trans h.2.2 k.2.2⟩

set_option maxHeartbeats 1000000 in
theorem parse_in (a0 a1 a3 a4 : ByteArray) (w : World)
    (h0 : a0.size ≤ 262144) (h1 : a1.size ≤ 262144) (h3 : a3.size ≤ 262144) (h4 : a4.size ≤ 262144) (s1 : slash a1 < 0) (s3 : slash a3 < 0) :
    Calls Try.prog 6 #[.string a0, .string a1, .bool true, .string a3, .string a4] w fun e w' => e = .returned (.bool true) ∧ Grown w w' := by
  go_enter Try.func6, Try.ntmps6
  go_wp2_with (first
    | (go_at_call 17; refine (bytes5 _ _ _ _ _ _).mono ?_; rintro e w' ⟨⟨b, rfl⟩, rfl⟩; cases b)
    | (go_at_call 13; refine (index_any _ _ (by omega)).mono ?_; rintro e w' ⟨rfl, rfl⟩))
  · go_ret
    exact ⟨rfl, Grown.refl _⟩
  · refine (key_any a0 a1 true a3 a4 w).mono ?_
    rintro e w1 ⟨b, rfl, hb, q1, q2, hg1⟩
    go_wp2_with fail
    obtain ⟨P, R1, R2, R3, hP, ⟨p1, p2, p3, p4⟩, ⟨k1, k2, k3, k4⟩, ⟨m1, m2, m3, m4, m5⟩, ⟨n1, n2, n3, n4, n5⟩⟩ := parts_in a1 a3 a4 h1 h3 h4 s1 s3
    refine (path_in b a1 a3 a4 _ hb q1 q2 h1 h3 h4).mono ?_
    rintro e w2 ⟨rfl, hg2, hb2⟩
    have hg := grown_two hg1 hg2
    rw [← hP]
    clear hP q1 q2 hb hb2 hg1 hg2
    go_wp2_with fail
    refine (proxy_yes P _ p1 p3).mono ?_
    rintro e w' ⟨rfl, rfl⟩
    go_wp2_with fail
    refine (projects_yes R1 _ k1 k3).mono ?_
    rintro e w' ⟨rfl, rfl⟩
    go_wp2_with fail
    clear p1 p2 p3 p4 k1 k2 k3 k4
    refine (index_any R2 _ (by omega)).mono ?_
    rintro e w' ⟨rfl, rfl⟩
    rw [m3]
    clear m3
    go_wp2_with fail
    refine (index_any R3 _ (by omega)).mono ?_
    rintro e w' ⟨rfl, rfl⟩
    rw [n3]
    clear n3
    have e1 := same_self a1
    have e4 := same_self a4
    go_wp2
    go_ret
    exact ⟨rfl, hg⟩
end Go.Proofs.Qxb6609551a
