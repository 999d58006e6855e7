namespace Go.Proofs.Qxb6609551a.Plain

/-- where the first '/' stands in a list of bytes, or -1 -/
def slashL (l : List UInt8) : Int := match l.findIdx? (· == 47) with | some k => (k : Int) | none => -1

def slash (s : ByteArray) : Int := slashL s.data.toList

theorem slashL_none {l : List UInt8} (h : ∀ x ∈ l, x ≠ 47) : slashL l = -1 := by
  have e : l.findIdx? (· == 47) = none := by
    rw [List.findIdx?_eq_none_iff]
    intro x hx
    simpa using h x hx
  unfold slashL; rw [e]

theorem slashL_cut {a : List UInt8} (h : ∀ x ∈ a, x ≠ 47) (b : List UInt8) : slashL (a ++ 47 :: b) = a.length := by
  have e : (a ++ 47 :: b).findIdx? (· == 47) = some a.length := by
    have e1 : a.findIdx? (· == 47) = none := by
      rw [List.findIdx?_eq_none_iff]
      intro x hx
      simpa using h x hx
    rw [List.findIdx?_append, e1]
    simp [List.findIdx?_cons]
  unfold slashL; rw [e]

theorem slashL_neg {l : List UInt8} (h : slashL l < 0) : ∀ x ∈ l, x ≠ 47 := by
  unfold slashL at h
  split at h
  · omega
  · rename_i e
    rw [List.findIdx?_eq_none_iff] at e
    intro x hx
    simpa using e x hx

theorem slash_bd (s : ByteArray) : -1 ≤ slash s ∧ slash s < s.size := by
  unfold slash slashL
  split
  · rename_i k e
    have := (List.findIdx?_eq_some_iff_getElem.1 e).1
    have hl : s.data.toList.length = s.size := rfl
    omega
  · omega

theorem slash_here (s : ByteArray) (k : Nat) (hk : k < s.size) (h : s[k].toNat = 47) (hb : ∀ j (hj : j < k), s[j].toNat ≠ 47) : slash s = k := by
  have e : s.data.toList.findIdx? (· == 47) = some k := by
    rw [List.findIdx?_eq_some_iff_getElem]
    refine ⟨hk, ?_, ?_⟩
    · show (s[k] == 47) = true
      have : s[k] = 47 := UInt8.toNat_inj.1 (by simpa using h)
      simp [this]
    · intro j hj
      show ¬ ((s[j] == 47) = true)
      intro hc
      have : s[j] = 47 := by simpa using hc
      exact hb j hj (by rw [this]; rfl)
  unfold slash slashL; rw [e]

theorem slash_gone (s : ByteArray) (hb : ∀ j (hj : j < s.size), s[j].toNat ≠ 47) : slash s = -1 := by
  unfold slash
  apply slashL_none
  intro x hx hc
  obtain ⟨j, hj, rfl⟩ := List.getElem_of_mem hx
  exact hb j hj (by show (s.data.toList[j]).toNat = 47; rw [hc]; rfl)

theorem cut_tail (a b : ByteArray) (n m : Nat) (hn : n = a.size) (hm : m = a.size + b.size) : (a ++ b).extract n m = b := by
  apply ByteArray.ext
  simp only [ByteArray.data_extract, ByteArray.data_append]
  apply Array.toList_inj.1
  have ha : a.data.toList.length = a.size := rfl
  have hb : b.data.toList.length = b.size := rfl
  rw [Array.toList_extract, Array.toList_append, List.extract_eq_take_drop, hn, hm, ← ha, List.drop_left', List.take_of_length_le] <;> omega

theorem cut_head (a b : ByteArray) (n : Nat) (hn : n = a.size) : (a ++ b).extract 0 n = a := by
  apply ByteArray.ext
  simp only [ByteArray.data_extract, ByteArray.data_append]
  apply Array.toList_inj.1
  have ha : a.data.toList.length = a.size := rfl
  rw [Array.toList_extract, Array.toList_append, List.extract_eq_take_drop, hn, ← ha, List.drop_zero, List.take_left']; omega

/-- what scopedCollection gives -/
def under (coll : ByteArray) (inP : Bool) (pr : ByteArray) : ByteArray :=
  if inP then ⟨#[112, 114, 111, 106, 101, 99, 116, 115, 47]⟩ ++ pr ++ ⟨#[47]⟩ ++ coll else coll

/-- what ProxyPath gives -/
def path (coll : ByteArray) (inP : Bool) (pr nm : ByteArray) : ByteArray :=
  ⟨#[47, 112, 114, 111, 120, 121, 47]⟩ ++ under coll inP pr ++ ⟨#[47]⟩ ++ nm

end Go.Proofs.Qxb6609551a.Plain
