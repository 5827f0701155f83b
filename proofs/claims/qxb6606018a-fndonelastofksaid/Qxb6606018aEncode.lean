import Derived.Lib.Join
import Derived.Test.Qxb6606018aData
/- What the batch's replies are encoded to: no walk in sight. -/
namespace Go.Proofs.Qxb6606018a.done

/-- the replies that are not nil -/
def parts (os : List (Option (List UInt8))) : List (List UInt8) := os.filterMap id

theorem parts_none {os : List (Option (List UInt8))} {k : Nat} (h : os[k]? = some none) : parts (os.take (k + 1)) = parts (os.take k) := by
  unfold parts
  rw [List.take_add_one, h, List.filterMap_append]
  simp
theorem parts_some {os : List (Option (List UInt8))} {k : Nat} {l : List UInt8} (h : os[k]? = some (some l)) : parts (os.take (k + 1)) = parts (os.take k) ++ [l] := by
  unfold parts
  rw [List.take_add_one, h, List.filterMap_append]
  simp
theorem parts_len (os : List (Option (List UInt8))) (k : Nat) : (parts (os.take k)).length ≤ os.length := by
  unfold parts
  have h1 := List.length_filterMap_le id (os.take k)
  have h2 := List.length_take_le k os
  have h3 : (os.take k).length ≤ os.length := by rw [List.length_take]; omega
  omega
theorem parts_len' (os : List (Option (List UInt8))) : (parts os).length ≤ os.length := List.length_filterMap_le id os

theorem lens_parts (os : List (Option (List UInt8))) : Lib.lens (parts os) = tlen os := by
  induction os with
  | nil => rfl
  | cons o r ih =>
    cases o with
    | none =>
      show Lib.lens (parts r) = _
      rw [ih]; simp [tlen, blen]
    | some l =>
      show Lib.lens (l :: parts r) = _
      have e : Lib.lens (l :: parts r) = l.length + Lib.lens (parts r) := by simp [Lib.lens]
      rw [e, ih]; simp [tlen, blen]

theorem join_snoc {ps : List (List UInt8)} (h : ps ≠ []) (l sep : List UInt8) : Lib.join (ps ++ [l]) sep = Lib.join ps sep ++ sep ++ l := by
  cases ps with
  | nil => exact absurd rfl h
  | cons x r =>
    rw [List.cons_append, Lib.join_cons, Lib.join_cons]
    unfold Lib.joinTail
    simp

theorem join_len (ps : List (List UInt8)) : (Lib.join ps [44]).length ≤ Lib.lens ps + ps.length := by
  cases ps with
  | nil => simp [Lib.join_nil]
  | cons x r =>
    rw [Lib.join_cons, List.length_append]
    have h : ∀ r : List (List UInt8), (Lib.joinTail [44] r).length = Lib.lens r + r.length := by
      intro r
      induction r with
      | nil => rfl
      | cons y q ih =>
        have e : Lib.joinTail [44] (y :: q) = ([44] ++ y) ++ Lib.joinTail [44] q := by simp [Lib.joinTail]
        have e2 : Lib.lens (y :: q) = y.length + Lib.lens q := by simp [Lib.lens]
        rw [e, e2, List.length_append, ih]
        simp
        omega
    have e2 : Lib.lens (x :: r) = x.length + Lib.lens r := by simp [Lib.lens]
    rw [h r, e2]
    simp
    omega

/-- what the batch is encoded to -/
def encode (os : List (Option (List UInt8))) : Option (List UInt8) :=
  if parts os = [] then none else some ([91] ++ Lib.join (parts os) [44] ++ [93])

/-- what the model has written behind k replies -/
def wrote (os : List (Option (List UInt8))) (k : Nat) : List UInt8 := [91] ++ Lib.join (parts (os.take k)) [44]

theorem wrote_zero (os : List (Option (List UInt8))) : wrote os 0 = [91] := by
  unfold wrote
  rw [List.take_zero]
  rfl
theorem wrote_none {os : List (Option (List UInt8))} {k : Nat} (h : os[k]? = some none) : wrote os (k + 1) = wrote os k := by
  unfold wrote; rw [parts_none h]
theorem wrote_first {os : List (Option (List UInt8))} {k : Nat} {l : List UInt8} (h : os[k]? = some (some l)) (h0 : parts (os.take k) = []) : wrote os (k + 1) = wrote os k ++ l := by
  unfold wrote; rw [parts_some h, h0, List.nil_append, Lib.join_one, Lib.join_nil, List.append_nil]
theorem wrote_next {os : List (Option (List UInt8))} {k : Nat} {l : List UInt8} (h : os[k]? = some (some l)) (h0 : parts (os.take k) ≠ []) : wrote os (k + 1) = wrote os k ++ [44] ++ l := by
  unfold wrote; rw [parts_some h, join_snoc h0]; simp
theorem wrote_all {os : List (Option (List UInt8))} (h : parts os ≠ []) : encode os = some (wrote os os.length ++ [93]) := by
  unfold encode wrote; rw [if_neg h, List.take_length]
theorem wrote_len (os : List (Option (List UInt8))) (k : Nat) : (wrote os k).length ≤ 1 + tlen os + os.length := by
  unfold wrote
  have h1 := join_len (parts (os.take k))
  rw [lens_parts] at h1
  have h2 := parts_len os k
  have h3 := tlen_take_le os k
  rw [List.length_append]
  simp
  omega
theorem encode_len (os : List (Option (List UInt8))) : blen (encode os) ≤ 2 + tlen os + os.length := by
  by_cases h : parts os = []
  · unfold encode; rw [if_pos h]; simp [blen]
  · rw [wrote_all h]
    have := wrote_len os os.length
    simp [blen]
    omega

end Go.Proofs.Qxb6606018a.done
