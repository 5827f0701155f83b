import Derived.Test.Qxb6608745aRows
import Derived.WalkKit
import Derived.ProofKit
import Derived.OpenShut
namespace Go.Proofs.Qxb6608745a.endsWalks
open Go.ChangeShapes Go.WideShapes Go.ChangeAt Go.RowKit

/-- what 'endsControlString' answers -/
def eB (b o : Int) : Bool := !(b == 7) || (o == 93)

theorem ret_bool {a b : Bool} (h : a = b) : Ending.returned (.bool a) = .returned (.bool b) := by rw [h]

theorem ends_any (b o : Int) (w : World) :
    Calls Try.prog 7 #[.int .u8 b, .int .u8 o] w fun e w' => e = .returned (.bool (eB b o)) ∧ w' = w := by
  by_cases h : b = 7
  · have hf : eB b o = (o == 93) := by unfold eB; simp [h]
    have HF : Hid (eB b o = (o == 93)) := hf
    clear hf
    have h' : (b != 7) = false := by simp [h]
    go_enter Try.func7, Try.ntmps7
    go_wp2
    go_ret
    exact ⟨ret_bool HF.out.symm, rfl⟩
  · have hf : eB b o = true := by unfold eB; simp [h]
    have HF : Hid (eB b o = true) := hf
    clear hf
    have h' : (b != 7) = true := by simp [h]
    go_enter Try.func7, Try.ntmps7
    go_wp2
    go_ret
    exact ⟨ret_bool HF.out.symm, rfl⟩

def cnt (o : Int) (k : Nat) : Int := if o = 93 then 0 else if k ≤ 7 then 0 else 1

theorem cnt_step (o : Int) (k : Nat) : cnt o (k + 1) = cnt o k + if eB k o = true then 0 else 1 := by
  unfold cnt eB
  by_cases h : o = 93
  · simp [h]
  · by_cases h7 : k = 7
    · simp [h, h7]
    · have h7' : ¬ (k : Int) = 7 := by omega
      simp [h, h7']
      split <;> split <;> omega
theorem cnt_lo (o : Int) (k : Nat) : 0 ≤ cnt o k ∧ cnt o k ≤ 1 := by unfold cnt; split <;> (try split) <;> omega
theorem eB_osc (b : Int) : eB b 93 = true := by unfold eB; simp

set_option maxRecDepth 100000 in
theorem walk3 (a0 : Int) (w : World) :
    Calls Try.prog 3 #[.int .u8 a0] w fun e w' => e = .returned (.bool true) ∧ w' = w := by
  go_enter Try.func3, Try.ntmps3
  go_wp2
  go_loop [3, 4] (fun t i => ∃ k : Nat, k ≤ 256 ∧ i = .int .i64 k ∧ t = .int .i64 (cnt a0 k)) (fun _ i => 256 - (intOf i).toNat)
  case atStart => exact ⟨0, by omega, rfl, by unfold cnt; simp⟩
  case round =>
    obtain ⟨k, hk, rfl, rfl⟩ := hrel
    have hc := cnt_lo a0 k
    by_cases hlt : k < 256
    · have hosc := eB_osc k
      have HS : Hid (cnt a0 (k + 1) = cnt a0 k + if eB k a0 = true then 0 else 1) := cnt_step a0 k
      by_cases he : eB k a0 = true
      · go_wp2_with (go_at_call 7; refine (ends_any _ _ _).mono ?_; rintro e w' ⟨rfl, rfl⟩)
        go_round
        case rel => exact ⟨k + 1, by omega, by go_num, by rw [HS.out, if_pos he]; go_num⟩
        case measure => simp [intOf]; omega
      · have he' : eB k a0 = false := by simpa using he
        go_wp2_with (go_at_call 7; refine (ends_any _ _ _).mono ?_; rintro e w' ⟨rfl, rfl⟩)
        go_round
        case rel => exact ⟨k + 1, by omega, by go_num, by rw [HS.out, if_neg he]⟩
        case measure => simp [intOf]; omega
    · have hk' : k = 256 := by omega
      subst hk'
      by_cases h93 : a0 = 93
      · have h1 : (a0 == 93) = true := by simp [h93]
        have h2 : (cnt a0 256 == 0) = true := by unfold cnt; simp [h93]
        go_wp2
        go_ret
        exact ⟨rfl, rfl⟩
      · have h1 : (a0 == 93) = false := by simp [h93]
        have h2 : (cnt a0 256 == 1) = true := by unfold cnt; simp [h93]
        go_wp2
        go_ret
        exact ⟨rfl, rfl⟩

def cntB (b : Int) (k : Nat) : Int := if b = 7 then (if k ≤ 93 then k else k - 1) else 0
theorem cntB_step (b : Int) (k : Nat) : cntB b (k + 1) = cntB b k + if eB b k = true then 0 else 1 := by
  unfold cntB eB
  by_cases h : b = 7
  · by_cases h9 : k = 93
    · simp [h, h9]
    · have h9' : ¬ (k : Int) = 93 := by omega
      simp [h, h9']
      split <;> split <;> omega
  · simp [h]
theorem cntB_lo (b : Int) (k : Nat) : 0 ≤ cntB b k ∧ cntB b k ≤ k := by unfold cntB; split <;> (try split) <;> omega
theorem eB_split (b o : Int) : eB b o = (eB b 91 || eB 7 o) := by unfold eB; simp

set_option maxRecDepth 100000 in
theorem walk4 (a0 a1 : Int) (w : World) :
    Calls Try.prog 4 #[.int .u8 a0, .int .u8 a1] w fun e w' => e = .returned (.bool true) ∧ w' = w := by
  have key : (eB a0 91 = true ∧ eB a0 a1 = true) ∨ (eB a0 91 = false ∧ (!(eB a0 a1 == eB 7 a1)) = false) := by
    rw [eB_split a0 a1]; cases eB a0 91 <;> simp
  rcases key with ⟨h91, hw⟩ | ⟨h91, hw⟩
  all_goals
    go_enter Try.func4, Try.ntmps4
    go_wp2_with (go_at_call 7; refine (ends_any _ _ _).mono ?_; rintro e w' ⟨rfl, rfl⟩)
    go_loop [8, 9] (fun t i => ∃ k : Nat, k ≤ 256 ∧ i = .int .i64 k ∧ t = .int .i64 (cntB a0 k)) (fun _ i => 256 - (intOf i).toNat)
    case atStart => exact ⟨0, by omega, rfl, by unfold cntB; simp⟩
    case round =>
      obtain ⟨k, hk, rfl, rfl⟩ := hrel
      have hc := cntB_lo a0 k
      by_cases hlt : k < 256
      · have HS : Hid (cntB a0 (k + 1) = cntB a0 k + if eB a0 k = true then 0 else 1) := cntB_step a0 k
        by_cases he : eB a0 k = true
        · go_wp2_with (go_at_call 7; refine (ends_any _ _ _).mono ?_; rintro e w' ⟨rfl, rfl⟩)
          go_round
          case rel => exact ⟨k + 1, by omega, by go_num, by rw [HS.out, if_pos he]; go_num⟩
          case measure => simp [intOf]; omega
        · have he' : eB a0 k = false := by simpa using he
          go_wp2_with (go_at_call 7; refine (ends_any _ _ _).mono ?_; rintro e w' ⟨rfl, rfl⟩)
          go_round
          case rel => exact ⟨k + 1, by omega, by go_num, by rw [HS.out, if_neg he]⟩
          case measure => simp [intOf]; omega
      · have hk' : k = 256 := by omega
        subst hk'
        by_cases h7 : a0 = 7
        · have h1 : (a0 == 7) = true := by simp [h7]
          have h2 : (cntB a0 256 == 255) = true := by unfold cntB; simp [h7]
          go_wp2
          go_ret
          exact ⟨rfl, rfl⟩
        · have h1 : (a0 == 7) = false := by simp [h7]
          have h2 : (cntB a0 256 == 0) = true := by unfold cntB; simp [h7]
          go_wp2
          go_ret
          exact ⟨rfl, rfl⟩
end Go.Proofs.Qxb6608745a.endsWalks
