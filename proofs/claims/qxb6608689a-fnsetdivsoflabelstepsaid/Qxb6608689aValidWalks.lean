import Derived.Test.Qxb6608689aLabelWalks
namespace Go.Proofs.Qxb6608689a.labelWalks
open Go.ChangeShapes Go.WideShapes Go.ChangeAt Go.RowKit
open Go.Proofs.Qxb6608689a.bytes

/-- an odd digit stands before some dot -/
def OddInner (s : ByteArray) : Prop := ∃ i, 1 ≤ i ∧ i < s.size ∧ at' s i = 46 ∧ oddD (at' s (i - 1)) = true

theorem inner_any (s : ByteArray) (w : World) (hs : s.size ≤ maxLen) :
    Calls Try.prog 14 #[.string s] w fun e w' => ∃ b : Bool, e = .returned (.bool b) ∧ (b = true ↔ OddInner s) ∧ w' = w := by
  have hm : s.size ≤ 9223372036854775807 := by unfold maxLen at hs; omega
  clear hs
  go_enter Try.func14, Try.ntmps14
  go_wp2
  go_loop [3] (fun v => ∃ k : Nat, 1 ≤ k ∧ v = .int .i64 k ∧ (k ≤ s.size ∨ k = 1) ∧ ∀ i, 1 ≤ i → i < k → ¬ (at' s i = 46 ∧ oddD (at' s (i - 1)) = true)) (fun v => s.size - (intOf v).toNat)
  case atStart => exact ⟨1, by omega, rfl, Or.inr rfl, fun i h1 h2 => by omega⟩
  case round =>
    obtain ⟨k, hk1, rfl, hk, hno⟩ := hrel
    have HN : Hid (∀ i, 1 ≤ i → i < k → ¬ (at' s i = 46 ∧ oddD (at' s (i - 1)) = true)) := hno
    clear hno
    by_cases hlt : k < s.size
    · clear hk
      have hp : k - 1 < s.size := by omega
      by_cases hd : (s[k].toNat : Int) = 46
      · have hd' : ((s[k].toNat : Int) == 46) = true := by simp [hd]
        have HD : Hid (at' s k = 46) := by rw [at_get hlt] at hd; show at' s k = 46; omega
        clear hd
        by_cases ho : oddD (s[k - 1].toNat : Int) = true
        · have HO : Hid (oddD (at' s (k - 1)) = true) := by rw [at_get hp] at ho; exact ho
          go_wp2_with (go_at_call 15; refine (odd_any _ _).mono ?_; rintro e w' ⟨rfl, rfl⟩)
          go_ret
          exact ⟨_, rfl, ⟨fun _ => ⟨k, hk1, hlt, HD.out, HO.out⟩, fun _ => rfl⟩, rfl⟩
        · have ho' : oddD (s[k - 1].toNat : Int) = false := by simpa using ho
          have HO : Hid (¬ oddD (at' s (k - 1)) = true) := by rw [at_get hp] at ho; exact ho
          clear ho
          go_wp2_with (go_at_call 15; refine (odd_any _ _).mono ?_; rintro e w' ⟨rfl, rfl⟩)
          go_round
          case rel => exact ⟨k + 1, by omega, by go_num, by omega, fun i h1 h2 h3 => by
            by_cases e : i = k
            · subst e; exact HO.out h3.2
            · exact HN.out i h1 (by omega) h3⟩
          case measure => simp [intOf]; omega
      · have hd' : ((s[k].toNat : Int) == 46) = false := by simp [hd]
        have HD : Hid (¬ at' s k = 46) := by rw [at_get hlt] at hd; show ¬ at' s k = 46; omega
        clear hd
        go_wp2
        go_round
        case rel => exact ⟨k + 1, by omega, by go_num, by omega, fun i h1 h2 h3 => by
          by_cases e : i = k
          · subst e; exact HD.out h3.1
          · exact HN.out i h1 (by omega) h3⟩
        case measure => simp [intOf]; omega
    · go_wp2
      go_ret
      exact Or.inl ⟨rfl, fun ⟨i, h1, h2, h3, h4⟩ => absurd ⟨h3, h4⟩ (HN.out i h1 (by omega)), rfl⟩

theorem fits2_any (a b : ByteArray) (w : World) (ha : a.size ≤ maxLen) (hb : b.size ≤ maxLen) :
    Calls Try.prog 13 #[.string a, .string b] w fun e w' => e = .returned (.bool (decide (a.size + b.size ≤ 1048576))) ∧ w' = w := by
  have ha' : a.size ≤ 9223372036854775807 := by unfold maxLen at ha; omega
  have hb' : b.size ≤ 9223372036854775807 := by unfold maxLen at hb; omega
  clear ha hb
  go_enter Try.func13, Try.ntmps13
  go_wp2
  all_goals go_ret
  all_goals exact ⟨ret_bool (by simp; omega), rfl⟩

theorem fits1_any (a : ByteArray) (w : World) (ha : a.size ≤ maxLen) :
    Calls Try.prog 22 #[.string a] w fun e w' => e = .returned (.bool (decide (a.size ≤ 1048576))) ∧ w' = w := by
  have ha' : a.size ≤ 9223372036854775807 := by unfold maxLen at ha; omega
  clear ha
  go_enter Try.func22, Try.ntmps22
  go_wp2
  all_goals go_ret
  all_goals exact ⟨ret_bool (by simp; omega), rfl⟩

/-- place p begins a division -/
def Starts (s : ByteArray) (p : Nat) : Prop := p = 0 ∨ at' s (p - 1) = 46

/-- what 'zzValidLabel' vouches for -/
structure Valid (s : ByteArray) : Prop where
  pos : 0 < s.size
  byte : ∀ j, j < s.size → at' s j = 46 ∨ (48 ≤ at' s j ∧ at' s j ≤ 57)
  start : ∀ p, p ≤ s.size → Starts s p → p < s.size ∧ at' s p ≠ 46 ∧ at' s p ≠ 48
  last : oddD (at' s (s.size - 1)) = true

/-- the loop's state behind k bytes, the current division begun at st -/
structure Scan (s : ByteArray) (k st : Nat) : Prop where
  le : st ≤ k
  begun : st = s.size + 1 ∨ Starts s st
  run : ∀ j, st ≤ j → j < k → j < s.size → 48 ≤ at' s j ∧ at' s j ≤ 57
  old : ∀ j, j < st → j < s.size → at' s j = 46 ∨ (48 ≤ at' s j ∧ at' s j ≤ 57)
  starts : ∀ p, p < st → p ≤ s.size → Starts s p → p < s.size ∧ at' s p ≠ 46 ∧ at' s p ≠ 48

theorem Scan.zero (s : ByteArray) : Scan s 0 0 :=
  ⟨Nat.le_refl _, Or.inr (Or.inl rfl), fun j h1 h2 => by omega, fun j h => by omega, fun p h => by omega⟩

theorem Scan.digit {s : ByteArray} {k st : Nat} (h : Scan s k st) (hd : 48 ≤ at' s k ∧ at' s k ≤ 57) : Scan s (k + 1) st :=
  ⟨by have := h.le; omega, h.begun, fun j h1 h2 h3 => by
    by_cases e : j = k
    · subst e; exact hd
    · exact h.run j h1 (by omega) h3, h.old, h.starts⟩

theorem Scan.dot {s : ByteArray} {k st : Nat} (h : Scan s k st) (hk : k ≤ s.size) (ht : k = s.size ∨ at' s k = 46) (h1 : ¬ k = st) (h2 : at' s st ≠ 48) : Scan s (k + 1) (k + 1) := by
  have hle := h.le
  refine ⟨Nat.le_refl _, ?_, fun j h1 h2 => by omega, fun j hj hj2 => ?_, fun p hp hp2 hs => ?_⟩
  · rcases ht with e | e
    · exact Or.inl (by omega)
    · exact Or.inr (Or.inr (by simpa using e))
  · by_cases e : j < st
    · exact h.old j e hj2
    · by_cases e2 : j < k
      · exact Or.inr (h.run j (by omega) e2 hj2)
      · have : j = k := by omega
        subst this
        rcases ht with e | e
        · omega
        · exact Or.inl e
  · by_cases e : p < st
    · exact h.starts p e hp2 hs
    · by_cases e2 : p = st
      · subst e2
        have := h.run p (Nat.le_refl _) (by omega) (by omega)
        exact ⟨by omega, by omega, h2⟩
      · exfalso
        rcases hs with h0 | h0
        · omega
        · have := h.run (p - 1) (by omega) (by omega) (by omega)
          omega

theorem Scan.valid {s : ByteArray} {st : Nat} (h : Scan s (s.size + 1) st) (hst : st = s.size + 1) (h0 : 0 < s.size) (ho : oddD (at' s (s.size - 1)) = true) : Valid s :=
  ⟨h0, fun j hj => h.old j (by omega) hj, fun p hp hs => h.starts p (by omega) hp hs, ho⟩

theorem beqf {a b : Int} (h : ¬ a = b) : (a == b) = false := beq_eq_false_iff_ne.2 h
theorem beqt {a b : Int} (h : a = b) : (a == b) = true := beq_iff_eq.2 h

theorem valid_any (s : ByteArray) (w : World) (hs : s.size ≤ 1048576) :
    Calls Try.prog 8 #[.string s] w fun e w' => (e = .returned (.bool false) ∧ w' = w) ∨ (e = .returned (.bool true) ∧ Valid s ∧ w' = w) := by
  by_cases h0 : s.size = 0
  · have h0' : ((s.size : Int) == 0) = true := beqt (by omega)
    clear h0
    go_enter Try.func8, Try.ntmps8
    go_wp2
    go_ret
    exact Or.inl ⟨rfl, rfl⟩
  have h0' : ((s.size : Int) == 0) = false := beqf (by omega)
  have hpos : 0 < s.size := by omega
  clear h0
  go_enter Try.func8, Try.ntmps8
  go_wp2
  go_loop [3, 4] (fun a b => ∃ st k : Nat, a = .int .i64 st ∧ b = .int .i64 k ∧ k ≤ s.size + 1 ∧ (k = s.size + 1 → st = s.size + 1) ∧ Scan s k st) (fun _ b => s.size + 1 - (intOf b).toNat)
  case atStart => exact ⟨0, 0, rfl, rfl, by omega, fun h => by omega, Scan.zero s⟩
  case round =>
    obtain ⟨st, k, rfl, rfl, hk, hend, hsc⟩ := hrel
    have hle := hsc.le
    have HE : Hid (k = s.size + 1 → st = s.size + 1) := hend
    clear hend
    have HS : Hid (Scan s k st) := hsc
    clear hsc
    by_cases hlt : k ≤ s.size
    · clear HE
      by_cases ht : k = s.size ∨ at' s k = 46
      · have HT : Hid (k = s.size ∨ at' s k = 46) := ht
        have hor : ((k : Int) == (s.size : Int)) = true ∨ (((k : Int) == (s.size : Int)) = false ∧ ∃ h : k < s.size, ((s[k].toNat : Int) == 46) = true) := by
          by_cases e : k = s.size
          · exact Or.inl (beqt (by omega))
          · refine Or.inr ⟨beqf (by omega), by omega, beqt ?_⟩
            rw [at_get (by omega)]; rcases ht with h | h <;> omega
        clear ht
        by_cases h1 : k = st
        · have h1' : ((k : Int) == (st : Int)) = true := beqt (by omega)
          clear h1 HS HT
          rcases hor with hke | ⟨hke, hkl, hdot⟩
          all_goals
            go_wp2
            go_ret
            exact Or.inl ⟨rfl, rfl⟩
        · have h1' : ((k : Int) == (st : Int)) = false := beqf (by omega)
          have hstl : st < s.size := by omega
          have HST : Hid (¬ k = st) := h1
          clear h1
          by_cases h2 : at' s st = 48
          · have h2' : ((s[st].toNat : Int) == 48) = true := beqt (by rw [at_get hstl]; omega)
            clear h2 HS HT HST
            rcases hor with hke | ⟨hke, hkl, hdot⟩
            all_goals
              go_wp2
              go_ret
              exact Or.inl ⟨rfl, rfl⟩
          · have h2' : ((s[st].toNat : Int) == 48) = false := beqf (by rw [at_get hstl]; omega)
            have HN : Hid (Scan s (k + 1) (k + 1)) := HS.out.dot hlt HT.out HST.out h2
            clear h2 HS HT HST
            rcases hor with hke | ⟨hke, hkl, hdot⟩
            all_goals
              go_wp2
              go_round
              case rel => exact ⟨k + 1, k + 1, by go_num, by go_num, by omega, fun h => h, HN.out⟩
              case measure => simp [intOf]; omega
      · have hks : k < s.size := by omega
        have hke : ((k : Int) == (s.size : Int)) = false := beqf (by omega)
        have hdot : ((s[k].toNat : Int) == 46) = false := beqf (by rw [at_get hks]; omega)
        clear ht
        by_cases hd : 48 ≤ at' s k ∧ at' s k ≤ 57
        · have HN : Hid (Scan s (k + 1) st) := HS.out.digit hd
          have hd1 : ¬ (s[k].toNat : Int) < 48 := by rw [at_get hks]; omega
          have hd2 : ¬ (57 : Int) < (s[k].toNat : Int) := by rw [at_get hks]; omega
          clear hd HS
          go_wp2
          go_round
          case rel => exact ⟨st, k + 1, rfl, by go_num, by omega, fun h => by omega, HN.out⟩
          case measure => simp [intOf]; omega
        · clear HS
          by_cases hd1 : (s[k].toNat : Int) < 48
          · clear hd
            go_wp2
            go_ret
            exact Or.inl ⟨rfl, rfl⟩
          · have hd2 : (57 : Int) < (s[k].toNat : Int) := by rw [at_get hks] at hd1 ⊢; omega
            clear hd
            go_wp2
            go_ret
            exact Or.inl ⟨rfl, rfl⟩
    · have hke : k = s.size + 1 := by omega
      have hste := HE.out hke
      subst hke
      subst hste
      clear HE
      go_wp2_with (go_at_call 15; refine (odd_any _ _).mono ?_; rintro e w' ⟨rfl, rfl⟩)
      go_ret
      by_cases ho : oddD (at' s (s.size - 1)) = true
      · exact Or.inr ⟨ret_bool (by rw [at_get (by omega)]; exact ho), HS.out.valid rfl hpos ho, rfl⟩
      · exact Or.inl ⟨ret_bool (by rw [at_get (by omega)]; simpa using ho), rfl⟩

end Go.Proofs.Qxb6608689a.labelWalks
