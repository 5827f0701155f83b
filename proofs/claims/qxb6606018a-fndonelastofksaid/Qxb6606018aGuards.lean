import Derived.Test.Qxb6606018aRows
import Derived.Test.Qxb6606018aData
import Derived.OpenShut
namespace Go.Proofs.Qxb6606018a.done
open Go.ChangeShapes Go.WideShapes Go.ChangeAt Go.RowKit

/-- the program's own size guard returns, whatever it says -/
theorem bytes9_any (w : World) (A : Option Addr) (cap : Nat) (os : List (Option (List UInt8))) (n : Int) (hr : HR 0 w A os) (hm : os.length ≤ 9223372036854775807) :
    Calls Try.prog 9 #[.slice A os.length cap, .int .i64 n] w fun e w' => (e = .returned (.bool true) ∧ w' = w) ∨ (e = .returned (.bool false) ∧ w' = w) := by
  by_cases hn : 1048576 < os.length
  · go_enter Try.func9, Try.ntmps9
    go_wp2
    go_ret
    exact Or.inr ⟨rfl, rfl⟩
  have hnd : decide (1048576 < (os.length : Int)) = false := by simp; omega
  go_enter Try.func9, Try.ntmps9
  go_wp2
  go_loop [5, 6] (fun t i => ∃ (k : Nat) (z : Nat), k ≤ os.length ∧ z ≤ 1048576 ∧ i = .int .i64 k ∧ t = .int .i64 z) (fun _ i => os.length - (intOf i).toNat)
  case atStart => exact ⟨0, os.length, by omega, by omega, rfl, rfl⟩
  case round =>
    obtain ⟨k, z, hk, hz, rfl, rfl⟩ := hrel
    by_cases hlt : k < os.length
    · have hne : os ≠ [] := by intro e; rw [e] at hlt; simp at hlt
      obtain ⟨b, off, rfl, _, hc⟩ := hr hne
      obtain ⟨v, hv, hb⟩ := hc k os[k] (List.getElem?_eq_getElem hlt)
      obtain ⟨a', c', rfl⟩ := hb.shape
      generalize blen os[k] = m at hv
      clear hc hb hr
      by_cases h1 : 1048576 < m
      · go_wp2
        go_ret
        exact Or.inr ⟨rfl, rfl⟩
      by_cases h2 : 1048576 < z + m
      · go_wp2
        go_ret
        exact Or.inr ⟨rfl, rfl⟩
      go_wp2
      go_round
      case rel => exact ⟨k + 1, z + m, by omega, by omega, by go_num, by go_num⟩
      case measure => simp [intOf]; omega
    · go_wp2
      go_ret
      exact Or.inl ⟨rfl, rfl⟩

/-- the program's own size guard returns, whatever it says -/
theorem bytes17_any (w : World) (A : Option Addr) (cap : Nat) (os : List (Option (List UInt8))) (n : Int) (hr : HR 0 w A os) (hm : os.length ≤ 9223372036854775807) :
    Calls Try.prog 17 #[.slice A os.length cap, .int .i64 n] w fun e w' => (e = .returned (.bool true) ∧ w' = w) ∨ (e = .returned (.bool false) ∧ w' = w) := by
  by_cases hn : 1048576 < os.length
  · go_enter Try.func17, Try.ntmps17
    go_wp2
    go_ret
    exact Or.inr ⟨rfl, rfl⟩
  have hnd : decide (1048576 < (os.length : Int)) = false := by simp; omega
  go_enter Try.func17, Try.ntmps17
  go_wp2
  go_loop [5, 6] (fun t i => ∃ (k : Nat) (z : Nat), k ≤ os.length ∧ z ≤ 1048576 ∧ i = .int .i64 k ∧ t = .int .i64 z) (fun _ i => os.length - (intOf i).toNat)
  case atStart => exact ⟨0, os.length, by omega, by omega, rfl, rfl⟩
  case round =>
    obtain ⟨k, z, hk, hz, rfl, rfl⟩ := hrel
    by_cases hlt : k < os.length
    · have hne : os ≠ [] := by intro e; rw [e] at hlt; simp at hlt
      obtain ⟨b, off, rfl, _, hc⟩ := hr hne
      obtain ⟨v, hv, hb⟩ := hc k os[k] (List.getElem?_eq_getElem hlt)
      obtain ⟨a', c', rfl⟩ := hb.shape
      generalize blen os[k] = m at hv
      clear hc hb hr
      by_cases h1 : 1048576 < m
      · go_wp2
        go_ret
        exact Or.inr ⟨rfl, rfl⟩
      by_cases h2 : 1048576 < z + m
      · go_wp2
        go_ret
        exact Or.inr ⟨rfl, rfl⟩
      go_wp2
      go_round
      case rel => exact ⟨k + 1, z + m, by omega, by omega, by go_num, by go_num⟩
      case measure => simp [intOf]; omega
    · go_wp2
      go_ret
      exact Or.inl ⟨rfl, rfl⟩

/-- what 'batchTooBig' has counted behind k replies -/
def tot (os : List (Option (List UInt8))) (k : Nat) : Nat := 24 * os.length + tlen (os.take k)
theorem tot_succ {os : List (Option (List UInt8))} {k : Nat} {o : Option (List UInt8)} (h : os[k]? = some o) : tot os (k + 1) = tot os k + blen o := by
  unfold tot; rw [tlen_take_succ h]; omega
theorem tot_zero (os : List (Option (List UInt8))) : tot os 0 = 24 * os.length := by unfold tot; simp [tlen]
theorem tot_all (os : List (Option (List UInt8))) : tot os os.length = 24 * os.length + tlen os := by unfold tot; rw [List.take_length]

/-- 'batchTooBig': where it says no the whole is small -/
theorem tooBig_any (w : World) (A : Option Addr) (cap : Nat) (os : List (Option (List UInt8))) (hr : HR 0 w A os) (hm : os.length ≤ 9223372036854775807) :
    Calls Try.prog 10 #[.slice A os.length cap] w fun e w' => (e = .returned (.bool true) ∧ w' = w) ∨ (e = .returned (.bool false) ∧ 24 * os.length + tlen os ≤ 1048576 ∧ w' = w) := by
  by_cases hn : 65536 < os.length
  · go_enter Try.func10, Try.ntmps10
    go_wp2
    go_ret
    exact Or.inl ⟨rfl, rfl⟩
  have hnd : decide (65536 < (os.length : Int)) = false := by simp; omega
  by_cases h0 : os = []
  · subst h0
    go_enter Try.func10, Try.ntmps10
    go_wp2
    refine wp_loop_rounds 1 ?_
    rw [rounds_succ]
    go_wp2
    go_ret
    exact Or.inr ⟨rfl, by decide, rfl⟩
  have HT : Hid (tot os 0 = 24 * os.length) := tot_zero os
  go_enter Try.func10, Try.ntmps10
  go_wp2
  go_loop [3, 4] (fun t i => ∃ (k : Nat), k ≤ os.length ∧ (tot os k ≤ 1048576 ∨ k = 0) ∧ i = .int .i64 k ∧ t = .int .i64 (tot os k)) (fun _ i => os.length - (intOf i).toNat)
  case atStart => exact ⟨0, by omega, Or.inr rfl, rfl, by rw [HT.out]; go_num⟩
  case round =>
    obtain ⟨k, hk, hz, rfl, rfl⟩ := hrel
    by_cases hlt : k < os.length
    · obtain ⟨b, off, rfl, _, hc⟩ := hr h0
      obtain ⟨v, hv, hb⟩ := hc k os[k] (List.getElem?_eq_getElem hlt)
      obtain ⟨a', c', rfl⟩ := hb.shape
      have hstep : Hid (tot os (k + 1) = tot os k + blen os[k]) := tot_succ (List.getElem?_eq_getElem hlt)
      have hzz : tot os k ≤ 2000000 := by
        rcases hz with h | h
        · omega
        · subst h; have := HT.out; omega
      generalize blen os[k] = m at hv hstep
      clear hc hb hr hz
      by_cases h1 : 1048576 < m
      · go_wp2
        go_ret
        exact Or.inl ⟨rfl, rfl⟩
      by_cases h2 : 1048576 < tot os k + m
      · go_wp2
        go_ret
        exact Or.inl ⟨rfl, rfl⟩
      go_wp2
      go_round
      case rel => exact ⟨k + 1, by omega, Or.inl (by rw [hstep.out]; omega), by go_num, by rw [hstep.out]; go_num⟩
      case measure => simp [intOf]; omega
    · have hke : k = os.length := by omega
      subst hke
      have hz' : tot os os.length ≤ 1048576 := by
        rcases hz with h | h
        · exact h
        · exact absurd (List.eq_nil_of_length_eq_zero h) h0
      have HA : Hid (24 * os.length + tlen os ≤ 1048576) := by rw [tot_all] at hz'; exact hz'
      clear hz hz'
      go_wp2
      go_ret
      exact Or.inr ⟨rfl, HA.out, rfl⟩

end Go.Proofs.Qxb6606018a.done
