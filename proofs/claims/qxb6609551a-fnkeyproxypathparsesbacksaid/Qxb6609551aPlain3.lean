import Derived.Test.Qxb6609551aPlain2
namespace Go.Proofs.Qxb6609551a.Plain

/-- what is left of a proxy path: its pieces, the last one first -/
def r3 (coll nm : ByteArray) : ByteArray := coll ++ (⟨#[47]⟩ ++ nm)
def r2 (coll pr nm : ByteArray) : ByteArray := pr ++ (⟨#[47]⟩ ++ r3 coll nm)
def r1 (coll pr nm : ByteArray) : ByteArray := ⟨#[112, 114, 111, 106, 101, 99, 116, 115, 47]⟩ ++ r2 coll pr nm

theorem path_in_eq (coll pr nm : ByteArray) : path coll true pr nm = ⟨#[47, 112, 114, 111, 120, 121, 47]⟩ ++ r1 coll pr nm := by
  unfold path under r1 r2 r3
  rw [if_pos rfl]
  simp only [ByteArray.append_assoc]

theorem path_out_eq (coll pr nm : ByteArray) : path coll false pr nm = ⟨#[47, 112, 114, 111, 120, 121, 47]⟩ ++ r3 coll nm := by
  unfold path under r3
  rw [if_neg (by simp)]
  simp only [ByteArray.append_assoc]

theorem same_self (a : ByteArray) : (a.toList == a.toList) = true := same_of rfl

theorem list_r3 (coll nm : ByteArray) : (r3 coll nm).data.toList = coll.data.toList ++ 47 :: nm.data.toList := by
  unfold r3; simp [ByteArray.data_append]
theorem list_r2 (coll pr nm : ByteArray) : (r2 coll pr nm).data.toList = pr.data.toList ++ 47 :: (r3 coll nm).data.toList := by
  unfold r2; simp [ByteArray.data_append]

theorem size_r3 (coll nm : ByteArray) : (r3 coll nm).size = coll.size + 1 + nm.size := by
  unfold r3
  simp only [ByteArray.size_append]
  have e3 : (ByteArray.mk #[47]).size = 1 := rfl
  omega
theorem size_r2 (coll pr nm : ByteArray) : (r2 coll pr nm).size = pr.size + 1 + (r3 coll nm).size := by
  unfold r2
  simp only [ByteArray.size_append]
  have e3 : (ByteArray.mk #[47]).size = 1 := rfl
  omega
theorem size_r1 (coll pr nm : ByteArray) : (r1 coll pr nm).size = 9 + (r2 coll pr nm).size := by
  unfold r1
  simp only [ByteArray.size_append]
  have e3 : (ByteArray.mk #[112, 114, 111, 106, 101, 99, 116, 115, 47]).size = 9 := rfl
  omega

theorem slash_r3 {coll : ByteArray} (h : slash coll < 0) (nm : ByteArray) : slash (r3 coll nm) = coll.size := by
  unfold slash; rw [list_r3, slashL_cut (slashL_neg h)]; rfl
theorem slash_r2 {pr : ByteArray} (h : slash pr < 0) (coll nm : ByteArray) : slash (r2 coll pr nm) = pr.size := by
  unfold slash; rw [list_r2, slashL_cut (slashL_neg h)]; rfl

theorem cut_r3_head (coll nm : ByteArray) : (r3 coll nm).extract 0 coll.size = coll := cut_head _ _ _ rfl
theorem cut_r3_tail (coll nm : ByteArray) : (r3 coll nm).extract (coll.size + 1) (r3 coll nm).size = nm := by
  have e : r3 coll nm = (coll ++ ⟨#[47]⟩) ++ nm := by unfold r3; rw [ByteArray.append_assoc]
  have e3 : (ByteArray.mk #[47]).size = 1 := rfl
  have hz := size_r3 coll nm
  rw [hz, e]
  exact cut_tail _ _ _ _ (by rw [ByteArray.size_append, e3]) (by rw [ByteArray.size_append, e3])
theorem cut_r2_head (coll pr nm : ByteArray) : (r2 coll pr nm).extract 0 pr.size = pr := cut_head _ _ _ rfl
theorem cut_r2_tail (coll pr nm : ByteArray) : (r2 coll pr nm).extract (pr.size + 1) (r2 coll pr nm).size = r3 coll nm := by
  have e : r2 coll pr nm = (pr ++ ⟨#[47]⟩) ++ r3 coll nm := by unfold r2; rw [ByteArray.append_assoc]
  have e3 : (ByteArray.mk #[47]).size = 1 := rfl
  have hz := size_r2 coll pr nm
  rw [hz, e]
  exact cut_tail _ _ _ _ (by rw [ByteArray.size_append, e3]) (by rw [ByteArray.size_append, e3])
theorem cut_r1_head (coll pr nm : ByteArray) : (r1 coll pr nm).extract 0 9 = ⟨#[112, 114, 111, 106, 101, 99, 116, 115, 47]⟩ := cut_head _ _ _ rfl
theorem cut_r1_tail (coll pr nm : ByteArray) : (r1 coll pr nm).extract 9 (r1 coll pr nm).size = r2 coll pr nm := by
  have hz := size_r1 coll pr nm
  rw [hz]
  exact cut_tail _ _ _ _ rfl rfl

/-- the pieces of a project kind's path, all at once -/
theorem pieces_in (coll pr nm : ByteArray) : ∃ P, P = path coll true pr nm ∧ P.size = 7 + (r1 coll pr nm).size ∧ P.extract 0 7 = ⟨#[47, 112, 114, 111, 120, 121, 47]⟩ ∧ P.extract 7 P.size = r1 coll pr nm := by
  have hz : (path coll true pr nm).size = 7 + (r1 coll pr nm).size := by rw [path_in_eq, ByteArray.size_append]; rfl
  refine ⟨_, rfl, hz, ?_, ?_⟩
  · rw [path_in_eq]; exact cut_head _ _ _ rfl
  · rw [hz, path_in_eq]; exact cut_tail _ _ _ _ rfl rfl

theorem pieces_out (coll pr nm : ByteArray) : ∃ P, P = path coll false pr nm ∧ P.size = 7 + (r3 coll nm).size ∧ P.extract 0 7 = ⟨#[47, 112, 114, 111, 120, 121, 47]⟩ ∧ P.extract 7 P.size = r3 coll nm := by
  have hz : (path coll false pr nm).size = 7 + (r3 coll nm).size := by rw [path_out_eq, ByteArray.size_append]; rfl
  refine ⟨_, rfl, hz, ?_, ?_⟩
  · rw [path_out_eq]; exact cut_head _ _ _ rfl
  · rw [hz, path_out_eq]; exact cut_tail _ _ _ _ rfl rfl

/-- the same, the pieces under names of their own, with the bounds that a walk asks -/
theorem parts_in (coll pr nm : ByteArray) (h1 : coll.size ≤ 262144) (h3 : pr.size ≤ 262144) (h4 : nm.size ≤ 262144) (s1 : slash coll < 0) (s3 : slash pr < 0) :
    ∃ P R1 R2 R3 : ByteArray, P = path coll true pr nm ∧ (7 ≤ P.size ∧ P.size ≤ 9000000 ∧ P.extract 0 7 = ⟨#[47, 112, 114, 111, 120, 121, 47]⟩ ∧ P.extract 7 P.size = R1) ∧
      (9 ≤ R1.size ∧ R1.size ≤ 9000000 ∧ R1.extract 0 9 = ⟨#[112, 114, 111, 106, 101, 99, 116, 115, 47]⟩ ∧ R1.extract 9 R1.size = R2) ∧
      (pr.size + 1 ≤ R2.size ∧ R2.size ≤ 9000000 ∧ slash R2 = pr.size ∧ R2.extract 0 pr.size = pr ∧ R2.extract (pr.size + 1) R2.size = R3) ∧
      (coll.size + 1 ≤ R3.size ∧ R3.size ≤ 9000000 ∧ slash R3 = coll.size ∧ R3.extract 0 coll.size = coll ∧ R3.extract (coll.size + 1) R3.size = nm) := by
  obtain ⟨P, hP, zP, xP0, xP⟩ := pieces_in coll pr nm
  have z1 := size_r1 coll pr nm
  have z2 := size_r2 coll pr nm
  have z3 := size_r3 coll nm
  exact ⟨P, _, _, _, hP, ⟨by omega, by omega, xP0, xP⟩, ⟨by omega, by omega, cut_r1_head coll pr nm, cut_r1_tail coll pr nm⟩,
    ⟨by omega, by omega, slash_r2 s3 coll nm, cut_r2_head coll pr nm, cut_r2_tail coll pr nm⟩, ⟨by omega, by omega, slash_r3 s1 nm, cut_r3_head coll nm, cut_r3_tail coll nm⟩⟩

theorem parts_out (coll pr nm : ByteArray) (h1 : coll.size ≤ 262144) (h4 : nm.size ≤ 262144) (s1 : slash coll < 0) :
    ∃ P R3 : ByteArray, P = path coll false pr nm ∧ (7 ≤ P.size ∧ P.size ≤ 9000000 ∧ P.extract 0 7 = ⟨#[47, 112, 114, 111, 120, 121, 47]⟩ ∧ P.extract 7 P.size = R3) ∧
      (coll.size + 1 ≤ R3.size ∧ R3.size ≤ 9000000 ∧ slash R3 = coll.size ∧ R3.extract 0 coll.size = coll ∧ R3.extract (coll.size + 1) R3.size = nm) := by
  obtain ⟨P, hP, zP, xP0, xP⟩ := pieces_out coll pr nm
  have z3 := size_r3 coll nm
  exact ⟨P, _, hP, ⟨by omega, by omega, xP0, xP⟩, ⟨by omega, by omega, slash_r3 s1 nm, cut_r3_head coll nm, cut_r3_tail coll nm⟩⟩

end Go.Proofs.Qxb6609551a.Plain
