import Derived.Test.Qxb6608689aRows
import Derived.WalkKit
import Derived.ProofKit
import Derived.OpenShut
import Derived.WalkSpells
import Derived.Test.Qxb6608689aBytes
namespace Go.Proofs.Qxb6608689a.labelWalks
open Go.ChangeShapes Go.WideShapes Go.ChangeAt Go.RowKit
open Go.Proofs.Qxb6608689a.bytes

theorem ret_bool {a b : Bool} (h : a = b) : Ending.returned (.bool a) = .returned (.bool b) := by rw [h]
theorem ret_int {k : IntKind} {a b : Int} (h : a = b) : Ending.returned (.int k a) = .returned (.int k b) := by rw [h]

/-- an odd digit of ASCII -/
def oddD (c : Int) : Bool := c == 49 || c == 51 || c == 53 || c == 55 || c == 57

theorem odd_any (c : Int) (w : World) :
    Calls Try.prog 15 #[.int .u8 c] w fun e w' => e = .returned (.bool (oddD c)) ∧ w' = w := by
  have hf : ∀ b, oddD c = b → Hid (oddD c = b) := fun b h => h
  by_cases h1 : c = 49
  · have H := hf true (by simp [oddD, h1])
    clear hf
    have h1' : (c == 49) = true := by simp [h1]
    clear h1
    go_enter Try.func15, Try.ntmps15
    go_wp2
    go_ret
    exact ⟨ret_bool H.out.symm, rfl⟩
  by_cases h2 : c = 51
  · have H := hf true (by simp [oddD, h2])
    clear hf
    have h1' : (c == 49) = false := by simp [h1]
    have h2' : (c == 51) = true := by simp [h2]
    clear h1 h2
    go_enter Try.func15, Try.ntmps15
    go_wp2
    go_ret
    exact ⟨ret_bool H.out.symm, rfl⟩
  by_cases h3 : c = 53
  · have H := hf true (by simp [oddD, h3])
    clear hf
    have h1' : (c == 49) = false := by simp [h1]
    have h2' : (c == 51) = false := by simp [h2]
    have h3' : (c == 53) = true := by simp [h3]
    clear h1 h2 h3
    go_enter Try.func15, Try.ntmps15
    go_wp2
    go_ret
    exact ⟨ret_bool H.out.symm, rfl⟩
  by_cases h4 : c = 55
  · have H := hf true (by simp [oddD, h4])
    clear hf
    have h1' : (c == 49) = false := by simp [h1]
    have h2' : (c == 51) = false := by simp [h2]
    have h3' : (c == 53) = false := by simp [h3]
    have h4' : (c == 55) = true := by simp [h4]
    clear h1 h2 h3 h4
    go_enter Try.func15, Try.ntmps15
    go_wp2
    go_ret
    exact ⟨ret_bool H.out.symm, rfl⟩
  have h1' : (c == 49) = false := by simp [h1]
  have h2' : (c == 51) = false := by simp [h2]
  have h3' : (c == 53) = false := by simp [h3]
  have h4' : (c == 55) = false := by simp [h4]
  have H := hf (c == 57) (by simp [oddD, h1, h2, h3, h4])
  clear hf h1 h2 h3 h4
  by_cases h5 : c = 57
  · have h5' : (c == 57) = true := by simp [h5]
    clear h5
    go_enter Try.func15, Try.ntmps15
    go_wp2
    go_ret
    exact ⟨ret_bool (by rw [H.out, h5']), rfl⟩
  · have h5' : (c == 57) = false := by simp [h5]
    clear h5
    go_enter Try.func15, Try.ntmps15
    go_wp2
    go_ret
    exact ⟨ret_bool (by rw [H.out, h5']), rfl⟩

theorem isEmpty_pos {s : ByteArray} (h : s.size = 0) : s.toList.isEmpty = true := by
  rw [ByteArray.toList_eq, List.isEmpty_iff]; apply List.eq_nil_of_length_eq_zero; simpa using h
theorem isEmpty_neg {s : ByteArray} (h : 0 < s.size) : s.toList.isEmpty = false := by
  rw [ByteArray.toList_eq, Bool.eq_false_iff, ne_eq, List.isEmpty_iff]
  intro h'
  have h1 : s.data.toList.length = 0 := by rw [h']; rfl
  have h2 : s.data.toList.length = s.size := by simp
  omega

/-- what 'oddEnd' answers -/
def oddE (s : ByteArray) : Bool := decide (0 < s.size) && (((at' s (s.size - 1) : Int) - 48) % 2 == 1)

theorem oddEnd_any (s : ByteArray) (w : World) (hs : s.size ≤ maxLen) :
    Calls Try.prog 25 #[.string s] w fun e w' => e = .returned (.bool (oddE s)) ∧ w' = w := by
  unfold maxLen at hs
  by_cases h0 : s.size = 0
  · have HF : Hid (oddE s = false) := by unfold oddE; simp [h0, Hid]
    have he := isEmpty_pos h0
    clear h0
    go_enter Try.func25, Try.ntmps25
    go_wp2
    go_ret
    exact ⟨ret_bool HF.out.symm, rfl⟩
  · have h1 : 0 < s.size := by omega
    have HF : Hid (oddE s = (((at' s (s.size - 1) : Int) - 48) % 2 == 1)) := by unfold oddE; simp [h1, Hid]
    have he := isEmpty_neg h1
    go_enter Try.func25, Try.ntmps25
    go_wp2
    go_ret
    exact ⟨ret_bool (by rw [HF.out, ← at_get (by omega)]), rfl⟩

/-- what 'bytealg.LastIndexByteString' answers: the last place of c, or -1 -/
def LastAt (s : ByteArray) (c r : Int) : Prop :=
  (r = -1 ∧ ∀ j, j < s.size → (at' s j : Int) ≠ c) ∨ (∃ i : Nat, i < s.size ∧ r = i ∧ (at' s i : Int) = c ∧ ∀ j, i < j → j < s.size → (at' s j : Int) ≠ c)

theorem lastStr_any (s : ByteArray) (c : Int) (w : World) (hs : s.size ≤ maxLen) :
    Calls Try.prog 29 #[.string s, .int .u8 c] w fun e w' => ∃ r : Int, e = .returned (.int .i64 r) ∧ LastAt s c r ∧ w' = w := by
  unfold maxLen at hs
  go_enter Try.func29, Try.ntmps29
  go_wp2
  go_loop [5] (fun i => ∃ k : Nat, k ≤ s.size ∧ i = .int .i64 (k - 1) ∧ ∀ j, k ≤ j → j < s.size → (at' s j : Int) ≠ c) (fun i => (intOf i + 1).toNat)
  case atStart => exact ⟨s.size, Nat.le_refl _, rfl, fun j h1 h2 => by omega⟩
  case round =>
    obtain ⟨k, hk, rfl, hno⟩ := hrel
    have HN : Hid (∀ j, k ≤ j → j < s.size → (at' s j : Int) ≠ c) := hno
    clear hno
    by_cases h0 : k = 0
    · subst h0
      go_wp2
      go_ret
      exact ⟨-1, rfl, Or.inl ⟨rfl, fun j h => HN.out j (Nat.zero_le _) h⟩, rfl⟩
    · obtain ⟨m, rfl⟩ : ∃ m, k = m + 1 := ⟨k - 1, by omega⟩
      clear h0
      have hm : m < s.size := by omega
      by_cases hc : (s[m].toNat : Int) = c
      · have hc' : ((s[m].toNat : Int) == c) = true := by simp [hc]
        have HC : Hid ((s[m].toNat : Int) = c) := hc
        clear hc
        go_wp2
        all_goals go_ret
        exact ⟨m, by go_num, Or.inr ⟨m, hm, rfl, by rw [← at_get hm]; exact HC.out, fun j h1 h2 => HN.out j (by omega) h2⟩, rfl⟩
      · have hc' : ((s[m].toNat : Int) == c) = false := by simp [hc]
        have HC : Hid (¬ (s[m].toNat : Int) = c) := hc
        clear hc
        go_wp2
        go_round
        case rel => exact ⟨m, by omega, by go_num, fun j h1 h2 => by
          by_cases e : j = m
          · subst e; rw [← at_get hm]; exact HC.out
          · exact HN.out j (by omega) h2⟩
        case measure => simp [intOf]

theorem last_any (s : ByteArray) (c : Int) (w : World) (hs : s.size ≤ maxLen) :
    Calls Try.prog 24 #[.string s, .int .u8 c] w fun e w' => ∃ r : Int, e = .returned (.int .i64 r) ∧ LastAt s c r ∧ w' = w := by
  go_enter Try.func24, Try.ntmps24
  go_wp2_with (go_at_call 29; refine (lastStr_any _ _ _ hs).mono ?_; rintro e w' ⟨r, rfl, hr, rfl⟩)
  go_ret
  exact ⟨r, rfl, hr, rfl⟩

theorem label_any (s : ByteArray) (w : World) :
    Calls Try.prog 9 #[.string s] w fun e w' => e = .returned (.agg #[.string s]) ∧ w' = w.alloc (.cells #[.string s] 24) := by
  go_enter Try.func9, Try.ntmps9
  go_wp2
  exact bodyPost_ret (v := .agg #[.string s]) (by simp [results, Try.results9, go_sem]) rfl ⟨rfl, rfl⟩

theorem text_any (s : ByteArray) (w : World) :
    Calls Try.prog 12 #[.agg #[.string s]] w fun e w' => e = .returned (.string s) ∧ w' = w.alloc (.cells #[.string s] 24) := by
  go_enter Try.func12, Try.ntmps12
  go_wp2
  go_ret
  exact ⟨rfl, rfl⟩

/-- what '(Label).Parent' answers -/
def ParentOf (t p : ByteArray) (ok : Bool) : Prop :=
  (ok = false ∧ p = ⟨#[]⟩ ∧ ∀ j, j < t.size → at' t j = 46 → oddE (t.extract 0 j) = false) ∨
  (ok = true ∧ ∃ i, i < t.size ∧ at' t i = 46 ∧ p = t.extract 0 i ∧ oddE (t.extract 0 i) = true ∧ ∀ j, i < j → j < t.size → at' t j = 46 → oddE (t.extract 0 j) = false)

def strLen : Value → Nat | .string s => s.size | _ => 0

theorem parent_any (t : ByteArray) (w : World) (ht : t.size ≤ maxLen) :
    Calls Try.prog 10 #[.agg #[.string t]] w fun e w' => ∃ p ok, e = .returned (.tuple #[.agg #[.string p], .bool ok]) ∧ ParentOf t p ok ∧ w' = (w.alloc (.cells #[.string t] 24)).alloc (.cells #[.string p] 24) := by
  have hm : t.size ≤ 9223372036854775807 := by unfold maxLen at ht; omega
  go_enter Try.func10, Try.ntmps10
  go_wp2
  go_loop [4] (fun v => ∃ k : Nat, k ≤ t.size ∧ v = .string (t.extract 0 k) ∧ ∀ j, k ≤ j → j < t.size → at' t j = 46 → oddE (t.extract 0 j) = false) (fun v => strLen v)
  case atStart => exact ⟨t.size, Nat.le_refl _, by rw [pre_all], fun j h1 h2 => by omega⟩
  case round =>
    obtain ⟨k, hk, rfl, hno⟩ := hrel
    have HN : Hid (∀ j, k ≤ j → j < t.size → at' t j = 46 → oddE (t.extract 0 j) = false) := hno
    clear hno
    have hz := size_pre hk
    have HZ : Hid ((t.extract 0 k).size = k) := hz
    go_wp2_with fail
    refine (last_any _ _ _ (by unfold maxLen; omega)).mono ?_
    rintro e w' ⟨r, rfl, hr, rfl⟩
    rcases hr with ⟨rfl, hall⟩ | ⟨i, hi, rfl, hc, hlast⟩
    · have HA : Hid (∀ j, j < (t.extract 0 k).size → (at' (t.extract 0 k) j : Int) ≠ 46) := hall
      clear hall
      go_wp2
      refine bodyPost_ret (v := .tuple #[.agg #[.string ⟨#[]⟩], .bool false]) (by simp [results, Try.results10, go_sem]) rfl ⟨_, _, rfl, Or.inl ⟨rfl, rfl, fun j h1 h2 => ?_⟩, rfl⟩
      by_cases hj : j < k
      · exact absurd (by rw [at_pre hj, h2]; rfl) (HA.out j (by omega))
      · exact HN.out j (by omega) h1 h2
    · have HC : Hid ((at' (t.extract 0 k) i : Int) = 46) := hc
      have HL : Hid (∀ j, i < j → j < (t.extract 0 k).size → (at' (t.extract 0 k) j : Int) ≠ 46) := hlast
      clear hc hlast
      have hik : i < k := by omega
      have hpp := pre_pre (s := t) (Nat.le_of_lt hik)
      have hzi : (t.extract 0 i).size = i := size_pre (by omega)
      have HZI : Hid ((t.extract 0 i).size = i) := hzi
      have hdot : Hid (at' t i = 46) := by have := HC.out; rw [at_pre hik] at this; show at' t i = 46; omega
      have hnext : Hid (∀ j, i < j → j < t.size → at' t j = 46 → oddE (t.extract 0 j) = false) := fun j h1 h2 h3 => by
        by_cases hj : j < k
        · exact absurd (by rw [at_pre hj, h3]; rfl) (HL.out j h1 (by omega))
        · exact HN.out j (by omega) h2 h3
      clear HC HL HN
      go_wp2_with fail
      refine (oddEnd_any _ _ (by unfold maxLen; omega)).mono ?_
      rintro e w' ⟨rfl, rfl⟩
      by_cases ho : oddE (t.extract 0 i) = true
      · go_wp2
        refine bodyPost_ret (v := .tuple #[.agg #[.string (t.extract 0 i)], .bool true]) (by simp [results, Try.results10, go_sem]) rfl ⟨_, _, rfl, Or.inr ⟨rfl, i, by omega, hdot.out, rfl, ho, hnext.out⟩, rfl⟩
      · have ho' : oddE (t.extract 0 i) = false := by simpa using ho
        clear ho
        go_wp2
        go_round
        case rel => exact ⟨i, by omega, rfl, fun j h1 h2 h3 => by
          by_cases e : j = i
          · subst e; exact ho'
          · exact hnext.out j (by omega) h2 h3⟩
        case measure => simp [strLen]; omega

end Go.Proofs.Qxb6608689a.labelWalks
