import Derived.Test.Qxb6609551aKeyWalks
import Derived.Test.Qxb6609551aPlain2
namespace Go.Proofs.Qxb6609551a
open Go.RowKit Plain

theorem bcell {W w1 : World} (hb : Below W.heap.size W w1) : (∀ b o, b < W.heap.size → w1.cell? ⟨b, o, none⟩ = W.cell? ⟨b, o, none⟩) ∧ (∀ b o, b < W.heap.size → w1.frozen? ⟨b, o, none⟩ = W.frozen? ⟨b, o, none⟩) :=
  ⟨fun b o h => hb.cell (p := ⟨b, o, none⟩) h, fun b o h => hb.frozen (p := ⟨b, o, none⟩) h⟩

theorem grown_trans {a b c : World} (h : Grown a b) (k : Grown b c) : Grown a c :=
  ⟨World.keptBut_trans h.1 k.1, fun x => (k.2.1 x).trans (h.2.1 x), Nat.le_trans h.2.2 k.2.2⟩

set_option maxHeartbeats 4000000 in
theorem sep_main_in (bp bn : Bool) (a0 a1 a3 a4 a5 a6 : ByteArray) (w : World)
    (h0 : a0.size ≤ 131072) (h1 : a1.size ≤ 131072) (h3 : a3.size ≤ 131072) (h4 : a4.size ≤ 131072) (h5 : a5.size ≤ 131072) (h6 : a6.size ≤ 131072)
    (s3 : slash a3 < 0) (s5 : slash a5 < 0) (hp : (a3.toList == a5.toList) = bp) (hn : (a4.toList == a6.toList) = bn)
    (he : ((path a1 true a3 a4).toList == (path a1 true a5 a6).toList) = (bn && bp)) :
    Calls Try.prog 7 #[.string a0, .string a1, .bool true, .string a3, .string a4, .string a5, .string a6] w fun e w' => e = .returned (.bool true) ∧ Grown w w' := by
  have hz := size_path_in a1 a3 a4
  cases bp <;> cases bn <;> simp only [Bool.and_true, Bool.and_false, Bool.and_self] at he
  all_goals
    go_enter Try.func7, Try.ntmps7
    go_wp2_with (first
      | (go_at_call 20; refine (bytes7 _ _ _ _ _ _ _ _).mono ?_; rintro e w' ⟨⟨b, rfl⟩, rfl⟩; cases b)
      | (go_at_call 13; refine (index_any _ _ (by omega)).mono ?_; rintro e w' ⟨rfl, rfl⟩))
    · go_ret
      exact ⟨rfl, Grown.refl _⟩
    · refine (path_in w.heap.size a1 a3 a4 _ (by simp) (by simp [go_sem]) (by simp [go_sem]) (by omega) (by omega) (by omega)).mono ?_
      rintro e w1 ⟨rfl, hg1, hb1⟩
      obtain ⟨c1, f1⟩ := bcell hb1
      have hz1 : w.heap.size < w1.heap.size := by have := hb1.size; simp at this; omega
      have q1 : w1.cell? ⟨w.heap.size, 1, none⟩ = some (.string a1) := by rw [c1 _ _ (by simp)]; simp [go_sem]
      have q2 : w1.cell? ⟨w.heap.size, 2, none⟩ = some (.bool true) := by rw [c1 _ _ (by simp)]; simp [go_sem]
      clear c1 f1
      go_wp2_with fail
      refine (path_in w.heap.size a1 a5 a6 _ hz1 q1 q2 (by omega) (by omega) (by omega)).mono ?_
      rintro e w2 ⟨rfl, hg2, hb2⟩
      clear q1 q2 hb1 hb2
      go_wp2
      go_ret
      exact ⟨rfl, grown_trans (grown_trans ((Grown.refl _).alloc _ _) hg1) hg2⟩
end Go.Proofs.Qxb6609551a
