import Derived.Test.Qxb6628528aStr
namespace Go.Proofs.Qxb6628528a
open Go.RowKit

theorem join_append (sep : List UInt8) (A B : List (List UInt8)) (hA : A ≠ []) (hB : B ≠ []) : Lib.join (A ++ B) sep = Lib.join A sep ++ sep ++ Lib.join B sep := by
  cases A with
  | nil => exact absurd rfl hA
  | cons x r =>
    cases B with
    | nil => exact absurd rfl hB
    | cons y q =>
      rw [List.cons_append, Lib.join_cons, Lib.join_cons, Lib.join_cons]
      simp [Lib.joinTail]
theorem ba_ext {a b : ByteArray} (h : a.data.toList = b.data.toList) : a = b := by
  apply ByteArray.ext
  exact Array.toList_inj.1 h
theorem ba_append (a b : ByteArray) : (a ++ b).data.toList = a.data.toList ++ b.data.toList := by
  rw [ByteArray.data_append, Array.toList_append]
theorem ba_assoc (a b c : ByteArray) : a ++ b ++ c = a ++ (b ++ c) := ByteArray.append_assoc
theorem joinL_append (A B : List Lab) (hA : A ≠ []) (hB : B ≠ []) : joinL (A ++ B) = joinL A ++ ⟨#[44, 32]⟩ ++ joinL B := by
  apply ba_ext
  rw [ba_append, ba_append]
  simp only [joinL, List.map_append]
  rw [join_append _ _ _ (by simpa using hA) (by simpa using hB)]
theorem joinL_one (x : Lab) : joinL [x] = item x := by
  apply ba_ext
  simp only [joinL, List.map_cons, List.map_nil, Lib.join_one]
theorem size_len (a : ByteArray) : a.size = a.data.toList.length := by rw [Array.length_toList]; rfl
theorem extract_left (a b : ByteArray) : (a ++ b).extract 0 a.size = a := by
  apply ba_ext
  simp only [ByteArray.data_extract, ByteArray.data_append, Array.toList_extract, Array.toList_append, List.extract_eq_take_drop, Nat.sub_zero, List.drop_zero, size_len]
  simp
theorem extract_right (a b : ByteArray) : (a ++ b).extract a.size (a ++ b).size = b := by
  apply ba_ext
  rw [size_append']
  simp only [ByteArray.data_extract, ByteArray.data_append, Array.toList_extract, Array.toList_append, List.extract_eq_take_drop, size_len]
  rw [List.drop_left, Nat.add_sub_cancel_left, List.take_length]
theorem last_byte (a : ByteArray) (c : UInt8) (h : a.size < (a ++ (⟨#[c]⟩ : ByteArray)).size) : (a ++ (⟨#[c]⟩ : ByteArray))[a.size] = c := by
  rw [ByteArray.getElem_append_right (Nat.le_refl _)]
  simp only [Nat.sub_self]
  rfl
end Go.Proofs.Qxb6628528a
