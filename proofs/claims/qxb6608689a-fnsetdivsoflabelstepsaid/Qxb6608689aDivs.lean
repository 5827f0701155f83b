import Derived.Test.Qxb6608689aJoined
/- The plain law of the label's step: no walk in sight. -/
namespace Go.Proofs.Qxb6608689a.labelWalks
open Go.Proofs.Qxb6608689a.bytes

/-- one division of at most nine digits -/
structure IsDiv (s : ByteArray) : Prop where
  pos : 0 < s.size
  few : s.size ≤ 9
  head : at' s 0 ≠ 48
  digit : ∀ j, j < s.size → 48 ≤ at' s j ∧ at' s j ≤ 57

/-- the number that the first k digits write -/
def valTo (s : ByteArray) : Nat → Nat
  | 0 => 0
  | k + 1 => valTo s k * 10 + (at' s k - 48)

theorem valTo_succ (s : ByteArray) (k : Nat) : valTo s (k + 1) = valTo s k * 10 + (at' s k - 48) := rfl

theorem val_pos {s : ByteArray} (h : IsDiv s) : ∀ k, k + 1 ≤ s.size → 0 < valTo s (k + 1)
  | 0, _ => by
    have h1 := h.head
    have h2 := h.digit 0 h.pos
    rw [valTo_succ]; omega
  | k + 1, hk => by
    have := val_pos h k (by omega)
    rw [valTo_succ]; omega

theorem val_lt {s : ByteArray} (h : IsDiv s) : ∀ k, k ≤ s.size → valTo s k < 10 ^ k
  | 0, _ => by show 0 < 10 ^ 0; decide
  | k + 1, hk => by
    have h1 := val_lt h k (by omega)
    have h2 := h.digit k (by omega)
    rw [valTo_succ, Nat.pow_succ]; omega

theorem val_lt9 {s : ByteArray} (h : IsDiv s) {k : Nat} (hk : k ≤ s.size) : valTo s k ≤ 999999999 := by
  have h1 := val_lt h k hk
  have h2 := h.few
  have h3 : 10 ^ k ≤ 10 ^ 9 := Nat.pow_le_pow_right (by decide) (by omega)
  have h4 : (10 : Nat) ^ 9 = 1000000000 := by decide
  omega

/-- the divisions that the label adds to its parent's -/
def step (s p : ByteArray) (ok : Bool) : ByteArray := if ok = true then s.extract (p.size + 1) s.size else s

def NoDots (s : ByteArray) : Prop := ∀ j, j < s.size → at' s j ≠ 46

theorem not_div {s : ByteArray} (h : ¬ (NoDots s ∧ s.size ≤ 9)) : ¬ IsDiv s := fun d =>
  h ⟨fun j hj => by have := d.digit j hj; omega, d.few⟩

/-- what the step's divisions are where they are one -/
theorem step_div {s p : ByteArray} {ok : Bool} (v : Valid s) (hp : ParentOf s p ok) (h1 : NoDots (step s p ok)) (h2 : (step s p ok).size ≤ 9) :
    IsDiv (step s p ok) ∧ valTo (step s p ok) (step s p ok).size % 2 = 1 := by
  have hpos := v.pos
  have hs : ∃ q, q < s.size ∧ Starts s q ∧ (step s p ok).size = s.size - q ∧ ∀ k, at' (step s p ok) k = at' s (q + k) := by
    rcases hp with ⟨g1, g2, g3⟩ | ⟨g1, i, g2, g3, g4, g5, g6⟩
    · refine ⟨0, by omega, Or.inl rfl, ?_, fun k => ?_⟩
      · unfold step; rw [if_neg (by rw [g1]; simp)]; omega
      · unfold step; rw [if_neg (by rw [g1]; simp), Nat.zero_add]
    · have hz : p.size = i := by rw [g4, size_pre (by omega)]
      have hst : Starts s (i + 1) := Or.inr (by rw [Nat.add_sub_cancel]; exact g3)
      refine ⟨i + 1, (v.start (i + 1) (by omega) hst).1, hst, ?_, fun k => ?_⟩
      · unfold step; rw [if_pos g1, hz, size_suf]
      · unfold step; rw [if_pos g1, hz, at_suf]
  obtain ⟨q, hq, hst, hz, hat⟩ := hs
  have hv := v.start q (by omega) hst
  have d : IsDiv (step s p ok) := by
    refine ⟨by omega, h2, by rw [hat 0]; exact hv.2.2, fun j hj => ?_⟩
    have g := h1 j hj
    rw [hat j] at g ⊢
    rcases v.byte (q + j) (by omega) with h | h
    · exact absurd h g
    · exact h
  refine ⟨d, ?_⟩
  obtain ⟨m, hm⟩ : ∃ m, (step s p ok).size = m + 1 := ⟨(step s p ok).size - 1, by omega⟩
  rw [hm, valTo_succ, hat m, show q + m = s.size - 1 by omega]
  have hl := v.last
  have hb := v.byte (s.size - 1) (by omega)
  simp [oddD] at hl
  omega

/-- the tests that the law makes on the parent's text -/
theorem parent_tests {s p : ByteArray} (hp : ParentOf s p true) : p.size < s.size ∧ s.extract 0 p.size = p ∧ at' s p.size = 46 := by
  rcases hp with ⟨g1, g2, g3⟩ | ⟨g1, i, g2, g3, g4, g5, g6⟩
  · cases g1
  · have hz : p.size = i := by rw [g4, size_pre (by omega)]
    rw [hz]
    exact ⟨g2, g4.symm, g3⟩

end Go.Proofs.Qxb6608689a.labelWalks
