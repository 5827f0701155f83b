/- Plain facts on byte strings: no Go in sight. -/
namespace Go.Proofs.Qxb6608689a.bytes

/-- the byte at place k (0 behind the end) -/
def at' (s : ByteArray) (k : Nat) : Nat := (s.data.toList.getD k 0).toNat

theorem at_get {s : ByteArray} {k : Nat} (h : k < s.size) : s[k].toNat = at' s k := by
  have h' : k < s.data.toList.length := by simpa using h
  unfold at'
  rw [List.getD_eq_getElem?_getD, List.getElem?_eq_getElem h']
  rfl

theorem at_lt (s : ByteArray) (k : Nat) : at' s k < 256 := by
  unfold at'; exact UInt8.toNat_lt _

theorem size_pre {s : ByteArray} {i : Nat} (h : i ≤ s.size) : (s.extract 0 i).size = i := by
  rw [ByteArray.size_extract]; omega

theorem list_pre (s : ByteArray) (i : Nat) : (s.extract 0 i).data.toList = s.data.toList.take i := by
  simp [ByteArray.data_extract]

theorem at_pre {s : ByteArray} {i k : Nat} (hk : k < i) : at' (s.extract 0 i) k = at' s k := by
  unfold at'
  rw [list_pre, List.getD_eq_getElem?_getD, List.getD_eq_getElem?_getD, List.getElem?_take]
  simp [hk]

theorem pre_pre {s : ByteArray} {i j : Nat} (h : j ≤ i) : (s.extract 0 i).extract 0 j = s.extract 0 j := by
  apply ByteArray.ext
  apply Array.ext'
  rw [list_pre, list_pre, list_pre, List.take_take, Nat.min_eq_left h]

theorem pre_all (s : ByteArray) : s.extract 0 s.size = s := by
  apply ByteArray.ext
  apply Array.ext'
  rw [list_pre]
  exact List.take_of_length_le (by simp)

theorem size_suf {s : ByteArray} {i : Nat} : (s.extract i s.size).size = s.size - i := by
  rw [ByteArray.size_extract]; omega

theorem list_suf (s : ByteArray) (i : Nat) : (s.extract i s.size).data.toList = s.data.toList.drop i := by
  rw [ByteArray.data_extract]
  simp
  rw [List.take_of_length_le]
  simp

theorem at_suf {s : ByteArray} {i k : Nat} : at' (s.extract i s.size) k = at' s (i + k) := by
  unfold at'
  rw [list_suf, List.getD_eq_getElem?_getD, List.getD_eq_getElem?_getD, List.getElem?_drop]

theorem at_append_left {a b : ByteArray} {k : Nat} (h : k < a.size) : at' (a ++ b) k = at' a k := by
  unfold at'
  rw [ByteArray.data_append, Array.toList_append, List.getD_eq_getElem?_getD, List.getD_eq_getElem?_getD, List.getElem?_append_left (by simpa using h)]

theorem at_append_right {a b : ByteArray} {k : Nat} (h : a.size ≤ k) : at' (a ++ b) k = at' b (k - a.size) := by
  unfold at'
  rw [ByteArray.data_append, Array.toList_append, List.getD_eq_getElem?_getD, List.getD_eq_getElem?_getD, List.getElem?_append_right (by simpa using h)]
  simp

theorem ext {a b : ByteArray} (hs : a.size = b.size) (h : ∀ k, k < a.size → at' a k = at' b k) : a = b := by
  apply ByteArray.ext
  apply Array.ext'
  apply List.ext_getElem (by simpa using hs)
  intro i h1 h2
  have hi : i < a.size := by simpa using h1
  have := h i hi
  unfold at' at this
  rw [List.getD_eq_getElem?_getD, List.getD_eq_getElem?_getD, List.getElem?_eq_getElem h1, List.getElem?_eq_getElem h2] at this
  exact UInt8.toNat_inj.1 this

end Go.Proofs.Qxb6608689a.bytes
