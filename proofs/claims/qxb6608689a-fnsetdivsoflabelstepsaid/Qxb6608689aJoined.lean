import Derived.Test.Qxb6608689aValidWalks
/- The plain law of the joined labels: no walk in sight. -/
namespace Go.Proofs.Qxb6608689a.labelWalks
open Go.Proofs.Qxb6608689a.bytes

def Chars (s : ByteArray) : Prop := ∀ j, j < s.size → at' s j = 46 ∨ (48 ≤ at' s j ∧ at' s j ≤ 57)

theorem oddD_iff {c : Nat} (h : c = 46 ∨ (48 ≤ c ∧ c ≤ 57)) : (((c : Int) - 48) % 2 == 1) = oddD c := by
  rw [Bool.eq_iff_iff]
  simp [oddD]
  omega

theorem oddE_pre {s : ByteArray} (hc : Chars s) {i : Nat} (hi : i ≤ s.size) : oddE (s.extract 0 i) = (decide (1 ≤ i) && oddD (at' s (i - 1))) := by
  unfold oddE
  rw [size_pre hi]
  by_cases h : 1 ≤ i
  · rw [at_pre (by omega), oddD_iff (hc (i - 1) (by omega))]
    have h' : 0 < i := by omega
    simp [h, h']
  · have h' : ¬ 0 < i := by omega
    simp [h, h']

/-- a dot at i behind an odd division -/
def Good (s : ByteArray) (i : Nat) : Prop := i < s.size ∧ at' s i = 46 ∧ oddE (s.extract 0 i) = true

theorem parent_good {s p : ByteArray} {ok : Bool} (h : ParentOf s p ok) : (ok = false ∧ p = ⟨#[]⟩ ∧ ∀ j, ¬ Good s j) ∨ (ok = true ∧ ∃ i, Good s i ∧ p = s.extract 0 i ∧ ∀ j, i < j → ¬ Good s j) := by
  rcases h with ⟨h1, h2, h3⟩ | ⟨h1, i, h2, h3, h4, h5, h6⟩
  · exact Or.inl ⟨h1, h2, fun j ⟨g1, g2, g3⟩ => by rw [h3 j g1 g2] at g3; cases g3⟩
  · exact Or.inr ⟨h1, i, ⟨h2, h3, h5⟩, h4, fun j hj ⟨g1, g2, g3⟩ => by rw [h6 j hj g1 g2] at g3; cases g3⟩

theorem inner_good {s : ByteArray} (hc : Chars s) : OddInner s ↔ ∃ i, Good s i := by
  constructor
  · rintro ⟨i, h1, h2, h3, h4⟩
    exact ⟨i, h2, h3, by rw [oddE_pre hc (by omega), h4]; simp [h1]⟩
  · rintro ⟨i, h1, h2, h3⟩
    rw [oddE_pre hc (by omega)] at h3
    simp at h3
    exact ⟨i, h3.1, h1, h2, h3.2⟩

/-- 'a' joined with a dot and 'b' -/
def joinD (a b : ByteArray) : ByteArray := a ++ ⟨#[46]⟩ ++ b

theorem size_join (a b : ByteArray) : (joinD a b).size = a.size + 1 + b.size := by
  unfold joinD; rw [ByteArray.size_append, ByteArray.size_append]; rfl
theorem size_mid (a : ByteArray) : (a ++ ⟨#[46]⟩ : ByteArray).size = a.size + 1 := by
  rw [ByteArray.size_append]; rfl

theorem join_left {a b : ByteArray} {k : Nat} (h : k < a.size) : at' (joinD a b) k = at' a k := by
  unfold joinD
  rw [at_append_left (by rw [size_mid]; omega), at_append_left h]
theorem join_dot {a b : ByteArray} : at' (joinD a b) a.size = 46 := by
  unfold joinD
  rw [at_append_left (by rw [size_mid]; omega), at_append_right (Nat.le_refl _), Nat.sub_self]
  rfl
theorem join_right {a b : ByteArray} {k : Nat} : at' (joinD a b) (a.size + 1 + k) = at' b k := by
  unfold joinD
  rw [at_append_right (by rw [size_mid]; omega), size_mid]
  congr 1
  omega

theorem join_chars {a b : ByteArray} (ha : Chars a) (hb : Chars b) : Chars (joinD a b) := by
  intro j hj
  rw [size_join] at hj
  by_cases h : j < a.size
  · rw [join_left h]; exact ha j h
  · by_cases h2 : j = a.size
    · subst h2; rw [join_dot]; exact Or.inl rfl
    · obtain ⟨k, rfl⟩ : ∃ k, j = a.size + 1 + k := ⟨j - a.size - 1, by omega⟩
      rw [join_right]; exact hb k (by omega)

theorem join_pre_a {a b : ByteArray} : (joinD a b).extract 0 a.size = a := by
  apply ext
  · rw [size_pre (by rw [size_join]; omega)]
  · intro k hk
    rw [size_pre (by rw [size_join]; omega)] at hk
    rw [at_pre hk, join_left hk]

theorem join_pre_b {a b : ByteArray} {i : Nat} (hi : i ≤ b.size) : (joinD a b).extract 0 (a.size + 1 + i) = joinD a (b.extract 0 i) := by
  apply ext
  · rw [size_pre (by rw [size_join]; omega), size_join, size_pre hi]
  · intro k hk
    rw [size_pre (by rw [size_join]; omega)] at hk
    rw [at_pre hk]
    by_cases h : k < a.size
    · rw [join_left h, join_left h]
    · by_cases h2 : k = a.size
      · subst h2; rw [join_dot, join_dot]
      · obtain ⟨m, rfl⟩ : ∃ m, k = a.size + 1 + m := ⟨k - a.size - 1, by omega⟩
        rw [join_right, join_right, at_pre (by omega)]

theorem good_right {a b : ByteArray} (ha : Chars a) (hb : Chars b) {i : Nat} : Good (joinD a b) (a.size + 1 + i) ↔ Good b i := by
  unfold Good
  rw [size_join, join_right]
  constructor
  · rintro ⟨h1, h2, h3⟩
    refine ⟨by omega, h2, ?_⟩
    rw [oddE_pre (join_chars ha hb) (by rw [size_join]; omega)] at h3
    rw [oddE_pre hb (by omega)]
    by_cases h0 : i = 0
    · subst h0
      rw [show a.size + 1 + 0 - 1 = a.size by omega, join_dot] at h3
      simp [oddD] at h3
    · rw [show a.size + 1 + i - 1 = a.size + 1 + (i - 1) by omega, join_right] at h3
      simp at h3
      simp [h3]; omega
  · rintro ⟨h1, h2, h3⟩
    refine ⟨by omega, h2, ?_⟩
    rw [oddE_pre hb (by omega)] at h3
    simp at h3
    rw [oddE_pre (join_chars ha hb) (by rw [size_join]; omega), show a.size + 1 + i - 1 = a.size + 1 + (i - 1) by omega, join_right]
    simp [h3]; omega

theorem good_mid {a b : ByteArray} (ha : Valid a) : Good (joinD a b) a.size := by
  refine ⟨by rw [size_join]; omega, join_dot, ?_⟩
  rw [join_pre_a]
  have h := oddE_pre (s := a) ha.byte (Nat.le_refl _)
  rw [pre_all, ha.last] at h
  rw [h]
  have := ha.pos
  simp; omega

/-- THE LAW -/
theorem joined {a b pj pb : ByteArray} {okj okb : Bool} (ha : Valid a) (hb : Valid b) (hj : ParentOf (joinD a b) pj okj) (hp : ParentOf b pb okb) :
    okj = true ∧ pj.size < (joinD a b).size ∧ (okb = true ↔ OddInner b) ∧
    ((okb = true ∧ pj = joinD a pb ∧ 0 < pb.size ∧ pb.size < b.size ∧ b.extract 0 pb.size = pb ∧ at' b pb.size = 46 ∧ oddD (at' pb (pb.size - 1)) = true) ∨ (okb = false ∧ pj = a)) := by
  have ca : Chars a := ha.byte
  have cb : Chars b := hb.byte
  rcases parent_good hj with ⟨h1, h2, h3⟩ | ⟨h1, i, h2, h3, h4⟩
  · exact absurd (good_mid ha) (h3 _)
  · refine ⟨h1, ?_, ?_, ?_⟩
    · rw [h3, size_pre (by have := h2.1; omega)]; exact h2.1
    · rw [inner_good cb]
      rcases parent_good hp with ⟨g1, g2, g3⟩ | ⟨g1, m, g2, g3, g4⟩
      · exact ⟨fun h => absurd (g1.symm.trans h) (by simp), fun ⟨m, h⟩ => absurd h (g3 m)⟩
      · exact ⟨fun _ => ⟨m, g2⟩, fun _ => g1⟩
    · rcases parent_good hp with ⟨g1, g2, g3⟩ | ⟨g1, m, g2, g3, g4⟩
      · refine Or.inr ⟨g1, ?_⟩
        have hi : i = a.size := by
          rcases Nat.lt_trichotomy i a.size with h | h | h
          · exact absurd (good_mid ha) (h4 _ h)
          · exact h
          · obtain ⟨m, rfl⟩ : ∃ m, i = a.size + 1 + m := ⟨i - a.size - 1, by omega⟩
            exact absurd ((good_right ca cb).1 h2) (g3 m)
        rw [h3, hi, join_pre_a]
      · have hm := g2.1
        have hmid := (good_right (a := a) ca cb).2 g2
        have hi : i = a.size + 1 + m := by
          rcases Nat.lt_trichotomy i (a.size + 1 + m) with h | h | h
          · exact absurd hmid (h4 _ h)
          · exact h
          · obtain ⟨n, rfl⟩ : ∃ n, i = a.size + 1 + n := ⟨i - a.size - 1, by omega⟩
            exact absurd ((good_right ca cb).1 h2) (g4 n (by omega))
        have hz : pb.size = m := by rw [g3, size_pre (by omega)]
        have ho := g2.2.2
        rw [oddE_pre cb (by omega)] at ho
        simp at ho
        refine Or.inl ⟨g1, ?_, by omega, by omega, ?_, ?_, ?_⟩
        · rw [h3, hi, join_pre_b (by omega), g3]
        · rw [hz, g3]
        · rw [hz]; exact g2.2.1
        · rw [hz, g3, at_pre (by omega)]; exact ho.2

end Go.Proofs.Qxb6608689a.labelWalks
