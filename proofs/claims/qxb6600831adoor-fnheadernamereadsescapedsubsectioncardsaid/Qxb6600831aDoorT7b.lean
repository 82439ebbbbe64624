/-
  Strings that are joined, read as lists.
-/
import Derived.Test.Qxb6600831aDoorT7
namespace Go.Proofs.Qxb6600831aDoor
open Go.RowKit
theorem data_cat (a b : ByteArray) : (a ++ b).data.toList = a.data.toList ++ b.data.toList := by
  rw [ByteArray.data_append, Array.toList_append]
theorem cat_list (a b : ByteArray) (w : List UInt8) : (a ++ b ++ (⟨w.toArray⟩ : ByteArray)).data.toList = a.data.toList ++ b.data.toList ++ w := by
  rw [data_cat, data_cat]
theorem of_data {x y : ByteArray} (h : x.data.toList = y.data.toList) : x = y := by
  cases x; cases y
  congr
  exact Array.toList_inj.1 h
theorem res_none (a c : ByteArray) : (⟨(a.data.toList ++ ([] ++ (34 :: (c.data.toList ++ [34])))).toArray⟩ : ByteArray) = a ++ ⟨#[34]⟩ ++ c ++ ⟨#[34]⟩ := by
  apply of_data
  rw [data_cat, data_cat, data_cat]
  simp
theorem res_some (a c : ByteArray) : (⟨(a.data.toList ++ ([32] ++ (34 :: (c.data.toList ++ [34])))).toArray⟩ : ByteArray) = a ++ ⟨#[32, 34]⟩ ++ c ++ ⟨#[34]⟩ := by
  apply of_data
  rw [data_cat, data_cat, data_cat]
  simp
end Go.Proofs.Qxb6600831aDoor
