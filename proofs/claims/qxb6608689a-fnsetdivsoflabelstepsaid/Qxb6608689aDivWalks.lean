import Derived.Test.Qxb6608689aDivs
namespace Go.Proofs.Qxb6608689a.labelWalks
open Go.ChangeShapes Go.WideShapes Go.ChangeAt Go.RowKit
open Go.Proofs.Qxb6608689a.bytes

theorem noDot_any (s : ByteArray) (w : World) (hs : s.size ≤ 1048576) :
    Calls Try.prog 23 #[.string s] w fun e w' => (e = .returned (.bool true) ∧ NoDots s ∧ w' = w) ∨ (e = .returned (.bool false) ∧ ¬ NoDots s ∧ w' = w) := by
  go_enter Try.func23, Try.ntmps23
  go_wp2
  go_loop [3] (fun v => ∃ k : Nat, k ≤ s.size ∧ v = .int .i64 k ∧ ∀ j, j < k → at' s j ≠ 46) (fun v => s.size - (intOf v).toNat)
  case atStart => exact ⟨0, by omega, rfl, fun j h => by omega⟩
  case round =>
    obtain ⟨k, hk, rfl, hno⟩ := hrel
    have HN : Hid (∀ j, j < k → at' s j ≠ 46) := hno
    clear hno
    by_cases hlt : k < s.size
    · by_cases hd : at' s k = 46
      · have hd' : ((s[k].toNat : Int) == 46) = true := beqt (by rw [at_get hlt]; omega)
        have HD : Hid (at' s k = 46) := hd
        clear hd
        go_wp2
        go_ret
        exact Or.inr ⟨rfl, fun h => h k hlt HD.out, rfl⟩
      · have hd' : ((s[k].toNat : Int) == 46) = false := beqf (by rw [at_get hlt]; omega)
        have HD : Hid (¬ at' s k = 46) := hd
        clear hd
        go_wp2
        go_round
        case rel => exact ⟨k + 1, by omega, by go_num, fun j h => by
          by_cases e : j = k
          · subst e; exact HD.out
          · exact HN.out j (by omega)⟩
        case measure => simp [intOf]; omega
    · go_wp2
      go_ret
      exact Or.inl ⟨rfl, fun j hj => HN.out j (by omega), rfl⟩

theorem oneDiv_no (s : ByteArray) (w : World) (hs : s.size ≤ 1048576) (hd : ¬ IsDiv s) :
    Calls Try.prog 27 #[.string s] w fun e w' => e = .returned (.bool false) ∧ w' = w := by
  have HD : Hid (¬ IsDiv s) := hd
  clear hd
  by_cases h0 : s.size < 1
  · go_enter Try.func27, Try.ntmps27
    go_wp2
    go_ret
    exact ⟨rfl, rfl⟩
  by_cases h9 : 9 < s.size
  · go_enter Try.func27, Try.ntmps27
    go_wp2
    go_ret
    exact ⟨rfl, rfl⟩
  have hp : 0 < s.size := by omega
  by_cases hh : at' s 0 = 48
  · have hh' : ((s[0].toNat : Int) == 48) = true := beqt (by rw [at_get hp]; omega)
    clear hh
    go_enter Try.func27, Try.ntmps27
    go_wp2
    go_ret
    exact ⟨rfl, rfl⟩
  have hh' : ((s[0].toNat : Int) == 48) = false := beqf (by rw [at_get hp]; omega)
  have HH : Hid (¬ at' s 0 = 48) := hh
  clear hh
  go_enter Try.func27, Try.ntmps27
  go_wp2
  go_loop [3] (fun v => ∃ k : Nat, k ≤ s.size ∧ v = .int .i64 k ∧ ∀ j, j < k → 48 ≤ at' s j ∧ at' s j ≤ 57) (fun v => s.size - (intOf v).toNat)
  case atStart => exact ⟨0, by omega, rfl, fun j h => by omega⟩
  case round =>
    obtain ⟨k, hk, rfl, hno⟩ := hrel
    have HN : Hid (∀ j, j < k → 48 ≤ at' s j ∧ at' s j ≤ 57) := hno
    clear hno
    by_cases hlt : k < s.size
    · by_cases hd1 : (s[k].toNat : Int) < 48
      · go_wp2
        go_ret
        exact ⟨rfl, rfl⟩
      · by_cases hd2 : (57 : Int) < (s[k].toNat : Int)
        · go_wp2
          go_ret
          exact ⟨rfl, rfl⟩
        · have HK : Hid (48 ≤ at' s k ∧ at' s k ≤ 57) := by rw [at_get hlt] at hd1 hd2; show 48 ≤ at' s k ∧ at' s k ≤ 57; omega
          go_wp2
          go_round
          case rel => exact ⟨k + 1, by omega, by go_num, fun j h => by
            by_cases e : j = k
            · subst e; exact HK.out
            · exact HN.out j (by omega)⟩
          case measure => simp [intOf]; omega
    · exact absurd ⟨hp, by omega, HH.out, fun j hj => HN.out j (by omega)⟩ HD.out

theorem divNumber_no (s : ByteArray) (w : World) (hs : s.size ≤ 1048576) (hd : ¬ IsDiv s) :
    Calls Try.prog 30 #[.string s] w fun e w' => e = .returned (.tuple #[.int .u32 0, .bool false]) ∧ w' = w := by
  have HD : Hid (¬ IsDiv s) := hd
  clear hd
  by_cases h0 : s.size = 0
  · have he := isEmpty_pos h0
    clear h0
    go_enter Try.func30, Try.ntmps30
    go_wp2
    go_ret2
    exact ⟨rfl, rfl⟩
  have hp : 0 < s.size := by omega
  have he := isEmpty_neg hp
  clear h0
  by_cases h9 : 9 < s.size
  · go_enter Try.func30, Try.ntmps30
    go_wp2
    go_ret2
    exact ⟨rfl, rfl⟩
  by_cases hh : at' s 0 = 48
  · have hh' : ((s[0].toNat : Int) == 48) = true := beqt (by rw [at_get hp]; omega)
    clear hh
    go_enter Try.func30, Try.ntmps30
    go_wp2
    go_ret2
    exact ⟨rfl, rfl⟩
  have hh' : ((s[0].toNat : Int) == 48) = false := beqf (by rw [at_get hp]; omega)
  have HH : Hid (¬ at' s 0 = 48) := hh
  clear hh
  go_enter Try.func30, Try.ntmps30
  go_wp2
  go_loop [4, 5] (fun d v => ∃ k : Nat, ∃ n : Int, k ≤ s.size ∧ v = .int .i64 k ∧ d = .int .u32 n ∧ ∀ j, j < k → 48 ≤ at' s j ∧ at' s j ≤ 57) (fun _ v => s.size - (intOf v).toNat)
  case atStart => exact ⟨0, 0, by omega, rfl, rfl, fun j h => by omega⟩
  case round =>
    obtain ⟨k, n, hk, rfl, rfl, hno⟩ := hrel
    have HN : Hid (∀ j, j < k → 48 ≤ at' s j ∧ at' s j ≤ 57) := hno
    clear hno
    by_cases hlt : k < s.size
    · by_cases hd1 : (s[k].toNat : Int) < 48
      · go_wp2
        go_ret2
        exact ⟨rfl, rfl⟩
      · by_cases hd2 : (57 : Int) < (s[k].toNat : Int)
        · go_wp2
          go_ret2
          exact ⟨rfl, rfl⟩
        · have HK : Hid (48 ≤ at' s k ∧ at' s k ≤ 57) := by rw [at_get hlt] at hd1 hd2; show 48 ≤ at' s k ∧ at' s k ≤ 57; omega
          go_wp2
          go_round
          case rel => exact ⟨k + 1, _, by omega, by go_num, rfl, fun j h => by
            by_cases e : j = k
            · subst e; exact HK.out
            · exact HN.out j (by omega)⟩
          case measure => simp [intOf]; omega
    · exact absurd ⟨hp, by omega, HH.out, fun j hj => HN.out j (by omega)⟩ HD.out

theorem divNumber_yes (s : ByteArray) (w : World) (hd : IsDiv s) :
    Calls Try.prog 30 #[.string s] w fun e w' => e = .returned (.tuple #[.int .u32 (valTo s s.size), .bool true]) ∧ w' = w := by
  have hp := hd.pos
  have h9 : ¬ 9 < s.size := by have := hd.few; omega
  have he := isEmpty_neg hp
  have hh' : ((s[0].toNat : Int) == 48) = false := beqf (by rw [at_get hp]; have := hd.head; omega)
  have HD : Hid (IsDiv s) := hd
  clear hd
  go_enter Try.func30, Try.ntmps30
  go_wp2
  go_loop [4, 5] (fun d v => ∃ k : Nat, k ≤ s.size ∧ v = .int .i64 k ∧ d = .int .u32 (valTo s k)) (fun _ v => s.size - (intOf v).toNat)
  case atStart => exact ⟨0, by omega, rfl, rfl⟩
  case round =>
    obtain ⟨k, hk, rfl, rfl⟩ := hrel
    by_cases hlt : k < s.size
    · have hk2 := HD.out.digit k hlt
      have hd1 : ¬ (s[k].toNat : Int) < 48 := by rw [at_get hlt]; omega
      have hd2 : ¬ (57 : Int) < (s[k].toNat : Int) := by rw [at_get hlt]; omega
      have hv := val_lt9 HD.out (k := k + 1) hlt
      have HV : Hid ((valTo s (k + 1) : Int) = (valTo s k : Int) * 10 + ((s[k].toNat : Int) - 48)) := by
        show (valTo s (k + 1) : Int) = (valTo s k : Int) * 10 + ((s[k].toNat : Int) - 48)
        rw [at_get hlt, valTo_succ]; omega
      have hvk : valTo s k ≤ 99999999 := by rw [valTo_succ] at hv; omega
      clear hk2 hv
      go_wp2
      go_round
      case rel => exact ⟨k + 1, by omega, by go_num, by rw [HV.out]⟩
      case measure => simp [intOf]; omega
    · go_wp2
      go_ret2
      have e : k = s.size := by omega
      subst e
      exact ⟨rfl, rfl⟩

end Go.Proofs.Qxb6608689a.labelWalks
