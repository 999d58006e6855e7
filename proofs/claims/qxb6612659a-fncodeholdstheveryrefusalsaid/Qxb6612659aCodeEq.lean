/-
  '==' between two values that Code made, as Go and the model say it: the text and the very refusal.
-/
import Derived.Test.Qxb6612659aProg
import Derived.WalkKit
import Derived.WalkSpells
import Derived.Laws.StructEq
import Derived.LaidEqlPtr
namespace Go.Proofs.Qxb6612659a
open Go.RowKit

theorem run_equalIn_iface {P : Program} (w : World) (d : Nat) {ti tx : TypeId} {ms : Array (String × TypeId)} {i : TypeInfo} (x y : Value)
    (hi : P.underlying ti = some (.interface ms)) (hinfo : P.info? tx = some i) (hcomp : i.comparable = true) :
    (Op.equalIn (d + 1) ti (.iface tx x) (.iface tx y)).run P w = (Op.equalIn d tx x y).run P w := by
  simp [Op.equalIn, run_underlying hi, typeInfo, hinfo, hcomp]

theorem info_of {P : Program} {t : TypeId} (h : (P.info? t).map (fun i => i.comparable) = some true) : ∃ i, P.info? t = some i ∧ i.comparable = true := by
  cases hi : P.info? t with
  | none => rw [hi] at h; cases h
  | some i => rw [hi] at h; exact ⟨i, rfl, by simpa using h⟩

theorem size_of {P : Program} {t : TypeId} (h : (P.info? t).map (fun i => i.size) = some 2) : ∃ i, P.info? t = some i ∧ i.size ≠ 0 := by
  cases hi : P.info? t with
  | none => rw [hi] at h; cases h
  | some i => rw [hi] at h; exact ⟨i, rfl, by simp at h; omega⟩

theorem m38 : (Try.prog.info? 38).map (fun i => i.comparable) = some true := by kernel_rfl
theorem m9 : (Try.prog.info? 9).map (fun i => i.comparable) = some true := by kernel_rfl
theorem m31 : (Try.prog.info? 31).map (fun i => i.comparable) = some true := by kernel_rfl
theorem m33 : (Try.prog.info? 33).map (fun i => i.size) = some 2 := by kernel_rfl
theorem st38 : Try.prog.underlying 38 = some (.struct (Try.prog.fieldsOf 38)) := by kernel_rfl
theorem no38 : Try.prog.stoodInHeld 38 = false := by kernel_rfl

/-- the two texts, and the two refusals, one behind the other -/
theorem eql_parts (t s : ByteArray) (a b : Addr) (w : World) (r : Bool) (ht : (t.toList == s.toList) = true)
    (hr : (Op.equalIn 9998 36 (.iface 31 (.pointer (some a))) (.iface 31 (.pointer (some b)))).run Try.prog w = .ok r w) :
    (binOp .eql 20 (.iface 38 (.agg #[.iface 9 (.string t), .iface 31 (.pointer (some a))])) (.iface 38 (.agg #[.iface 9 (.string s), .iface 31 (.pointer (some b))]))).run Try.prog w = .ok (.bool r) w := by
  obtain ⟨i38, e38, c38⟩ := info_of m38
  obtain ⟨i9, e9, c9⟩ := info_of m9
  have h1 : (Op.equalIn 10000 20 (.iface 38 (.agg #[.iface 9 (.string t), .iface 31 (.pointer (some a))])) (.iface 38 (.agg #[.iface 9 (.string s), .iface 31 (.pointer (some b))]))).run Try.prog w = .ok r w := by
    rw [show (10000 : Nat) = 9998 + 1 + 1 from rfl, run_equalIn_iface w _ _ _ Try.underlying20 e38 c38, run_equalIn_agg w _ 38 _ _ st38 no38]
    have h2 : (Op.equalIn 9998 20 (.iface 9 (.string t)) (.iface 9 (.string s))).run Try.prog w = .ok true w := by
      rw [show (9998 : Nat) = 9996 + 1 + 1 from rfl, run_equalIn_iface w _ _ _ Try.underlying20 e9 c9, run_equalIn_string w _ 9 _ _ Try.underlying9, ht]
    simp only [Program.fieldsOf, Try.underlying38]
    simp [Op.eqFields, part, Try.isAgg20, Try.isAgg36, h2, hr]
    cases r <;> rfl
  simp only [binOp]
  simp [Op.equal, Op.maxDepth, h1]

/-- one text, one refusal: equal -/
theorem eql_code_same (t : ByteArray) (a : Addr) (w : World) :
    (binOp .eql 20 (.iface 38 (.agg #[.iface 9 (.string t), .iface 31 (.pointer (some a))])) (.iface 38 (.agg #[.iface 9 (.string t), .iface 31 (.pointer (some a))]))).run Try.prog w = .ok (.bool true) w := by
  obtain ⟨i31, e31, c31⟩ := info_of m31
  obtain ⟨i33, e33, c33⟩ := size_of m33
  exact eql_parts t t a a w true (by simp) (run_equalIn_iface_ptr_same w 9996 a Try.underlying36 Try.underlying31 e31 c31 e33)

/-- one text, two refusals, each in a block of its own: not equal -/
theorem eql_code_other (t : ByteArray) (a b : Addr) (w : World) {ca cb : Array Value} {ta tb : TypeId} (hne : a ≠ b) (ha : w.heap[a.block]? = some (.cells ca ta (0, 0))) (hb : w.heap[b.block]? = some (.cells cb tb (0, 0))) :
    (binOp .eql 20 (.iface 38 (.agg #[.iface 9 (.string t), .iface 31 (.pointer (some a))])) (.iface 38 (.agg #[.iface 9 (.string t), .iface 31 (.pointer (some b))]))).run Try.prog w = .ok (.bool false) w := by
  obtain ⟨i31, e31, c31⟩ := info_of m31
  obtain ⟨i33, e33, c33⟩ := size_of m33
  exact eql_parts t t a b w false (by simp) (run_equalIn_iface_ptr_other w 9996 Try.underlying36 Try.underlying31 e31 c31 e33 c33 hne ha hb)

/-- a refusal is not unequal to itself -/
theorem neq_ptr_same (a : Addr) (w : World) : (binOp .neq 31 (.pointer (some a)) (.pointer (some a))).run Try.prog w = .ok (.bool false) w := by
  obtain ⟨i33, e33, c33⟩ := size_of m33
  have h : ∀ d : Nat, (Op.equalIn (d + 1) 31 (.pointer (some a)) (.pointer (some a))).run Try.prog w = .ok true w := fun d => by
    simp [Op.equalIn, run_underlying Try.underlying31, sizeOf, typeInfo, e33, run_sameAddr_same]
  simp only [binOp]
  simp [Op.equal, Op.maxDepth, h 9999]

end Go.Proofs.Qxb6612659a
