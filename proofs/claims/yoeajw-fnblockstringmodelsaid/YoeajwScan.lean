import Derived.Test.YoeajwJoin
namespace Go.Proofs.Yoeajw

def parts (xs : List ByteArray) : List (List UInt8) := xs.map (·.data.toList)
def pos (xs : List ByteArray) (c : Nat) : Nat := posOf (parts xs) c

theorem parts_get {xs : List ByteArray} {c : Nat} {x : ByteArray} (h : xs[c]? = some x) : (parts xs)[c]? = some x.data.toList := by
  unfold parts
  rw [List.getElem?_map, h]; rfl
theorem parts_length (xs : List ByteArray) : (parts xs).length = xs.length := by simp [parts]
theorem toList_length (x : ByteArray) : x.data.toList.length = x.size := rfl

theorem pos_zero (xs : List ByteArray) : pos xs 0 = 0 := rfl
theorem pos_succ {xs : List ByteArray} {c : Nat} {x : ByteArray} (h : xs[c]? = some x) : pos xs (c + 1) = pos xs c + (x.size + 2) := posOf_succ _ _ _ (parts_get h)

theorem size_of {xs : List ByteArray} {I : ByteArray} (hI : I.data.toList = Lib.join (parts xs) [59, 32]) : I.size = (Lib.join (parts xs) [59, 32]).length := by rw [← hI]; rfl

theorem at_of {xs : List ByteArray} {I : ByteArray} (hI : I.data.toList = Lib.join (parts xs) [59, 32]) {j : Nat} {u : UInt8} (hj : (Lib.join (parts xs) [59, 32])[j]? = some u) (hlt : j < I.size) : I[j]'hlt = u := by
  rw [← hI] at hj
  have hl : j < I.data.toList.length := by simpa using hlt
  rw [List.getElem?_eq_getElem hl] at hj
  rw [← Option.some.inj hj]
  rfl

theorem scan_le {xs : List ByteArray} {I x : ByteArray} {c : Nat} (hI : I.data.toList = Lib.join (parts xs) [59, 32]) (h : xs[c]? = some x) : pos xs c + x.size ≤ I.size := by
  obtain ⟨pre, post, h1, h2, _, _⟩ := join_split _ _ _ (parts_get h)
  rw [size_of hI, h1]
  unfold pos
  rw [← h2, ← toList_length]
  simp

theorem scan_byte {xs : List ByteArray} {I x : ByteArray} {c : Nat} (hI : I.data.toList = Lib.join (parts xs) [59, 32]) (h : xs[c]? = some x) {i : Nat} (hi : i < x.size) (hlt : pos xs c + i < I.size) : I[pos xs c + i]'hlt = x[i]'hi :=
  at_of hI (join_in _ _ _ (parts_get h) i (by rw [toList_length]; exact hi)) hlt

theorem scan_ext {xs : List ByteArray} {I x : ByteArray} {c : Nat} (hI : I.data.toList = Lib.join (parts xs) [59, 32]) (h : xs[c]? = some x) : I.extract (pos xs c) (pos xs c + x.size) = x := by
  have e : (I.extract (pos xs c) (pos xs c + x.size)).data.toList = x.data.toList := by
    rw [ByteArray.data_extract, Array.toList_extract, hI]
    have := join_take _ _ _ (parts_get h)
    rw [toList_length] at this
    simp only [List.extract_eq_take_drop] at *
    rw [List.drop_take] at this
    exact this
  cases x
  generalize I.extract _ _ = E at *
  cases E
  simp at e
  rw [e]

theorem scan_last {xs : List ByteArray} {I x : ByteArray} {c : Nat} (hI : I.data.toList = Lib.join (parts xs) [59, 32]) (h : xs[c]? = some x) (hc : c + 1 = xs.length) : I.size = pos xs c + x.size := by
  rw [size_of hI]
  exact join_last _ _ _ (parts_get h) (by rw [parts_length]; exact hc)

theorem scan_sep {xs : List ByteArray} {I x : ByteArray} {c : Nat} (hI : I.data.toList = Lib.join (parts xs) [59, 32]) (h : xs[c]? = some x) (hc : c + 1 < xs.length) : pos xs c + x.size + 2 ≤ I.size ∧ (∀ hlt : pos xs c + x.size < I.size, (I[pos xs c + x.size]'hlt).toNat = 59) ∧ (∀ hlt : pos xs c + x.size + 1 < I.size, (I[pos xs c + x.size + 1]'hlt).toNat = 32) := by
  obtain ⟨h1, h2, h3⟩ := join_sep _ _ _ (parts_get h) (by rw [parts_length]; exact hc)
  rw [toList_length] at h1 h2 h3
  exact ⟨by rw [size_of hI]; exact h3, fun hlt => congrArg UInt8.toNat (at_of hI (j := pos xs c + x.size) h1 hlt), fun hlt => congrArg UInt8.toNat (at_of hI (j := pos xs c + x.size + 1) h2 hlt)⟩
end Go.Proofs.Yoeajw
