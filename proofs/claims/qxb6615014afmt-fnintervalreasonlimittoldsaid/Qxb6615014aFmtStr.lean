/-
  Plain facts on byte strings: what slicing a string P ++ D ++ [c] gives. No Go here.
-/
import Derived.WideShapes
import Derived.Laws.Strings
namespace Go.Proofs.Qxb6615014aFmt.Str

theorem bytes_ext {a b : ByteArray} (h : a.data.toList = b.data.toList) : a = b := by
  cases a; cases b
  simpa using Array.toList_inj.1 h

theorem ext_list (s : ByteArray) (i j : Nat) : (s.extract i j).data.toList = (s.data.toList.drop i).take (j - i) := by
  rw [ByteArray.data_extract, Array.toList_extract, List.extract_eq_take_drop]

theorem size_list (s : ByteArray) : s.size = s.data.toList.length := by simp

theorem get_list (s : ByteArray) (i : Nat) (h : i < s.size) : s[i] = s.data.toList[i]'(by simpa using h) := by simp; rfl

theorem head_eq (s h : ByteArray) (D : List UInt8) (c : UInt8) (hs : s.data.toList = h.data.toList ++ D ++ [c]) (n : Nat) (hn : n = h.size) : (s.extract 0 n).toList = h.toList := by
  have : s.extract 0 n = h := bytes_ext (by rw [ext_list, hs, hn, size_list]; simp)
  rw [this]

theorem head_list (s h : ByteArray) (D : List UInt8) (c : UInt8) (hs : s.data.toList = h.data.toList ++ D ++ [c]) (n : Nat) (hn : n = h.size) : (s.extract 0 n).toList = h.data.toList := by
  rw [head_eq s h D c hs n hn, ByteArray.toList_eq]

theorem last_eq (s : ByteArray) (P D : List UInt8) (c : UInt8) (hs : s.data.toList = P ++ D ++ [c]) (h : s.size - 1 < s.size) : s[s.size - 1] = c := by
  rw [get_list]
  have e : s.data.toList[s.size - 1]? = some c := by
    rw [hs, size_list, hs]
    simp
  rw [List.getElem?_eq_getElem (by rw [← size_list]; exact h)] at e
  exact Option.some.inj e

theorem mid_eq (s : ByteArray) (P D : List UInt8) (c : UInt8) (hs : s.data.toList = P ++ D ++ [c]) (n : Nat) (hn : n = P.length) : (s.extract n (s.size - 1)).data.toList = D := by
  rw [ext_list, size_list, hs, hn]
  simp

theorem size_eq (s : ByteArray) (P D : List UInt8) (c : UInt8) (hs : s.data.toList = P ++ D ++ [c]) : s.size = P.length + D.length + 1 := by
  rw [size_list, hs]; simp; omega

theorem app_list (a b : ByteArray) : (a ++ b).data.toList = a.data.toList ++ b.data.toList := by
  rw [ByteArray.data_append, Array.toList_append]

end Go.Proofs.Qxb6615014aFmt.Str
