import Derived.Test.Qxb6606018aRows
import Derived.WalkKit
import Derived.ProofKit
import Derived.OpenShut
namespace Go.Proofs.Qxb6606018a.holdsWalks
open Go.ChangeShapes Go.WideShapes Go.ChangeAt Go.RowKit

/-- what 'holds' answers -/
def hB (a n i : Int) : Bool := decide (IntKind.u64.wrap (i - a) < n)

/-- what the model answers -/
def mB (a n i : Int) : Bool :=
  if n = 0 then false
  else if a ≤ 18446744073709551615 - n then decide (a ≤ i) && decide (i < IntKind.u64.wrap (a + n))
  else decide (a ≤ i) || decide (i < IntKind.u64.wrap (a + n))

theorem bounds {a : Int} (h : (Lit.int .u64 a).wf = true) : 0 ≤ a ∧ a ≤ 18446744073709551615 := by
  have := (bounds_u64 h)
  omega

theorem ret_bool {a b : Bool} (h : a = b) : Ending.returned (.bool a) = .returned (.bool b) := by rw [h]

theorem hB_eq_mB {a n i : Int} (ha : 0 ≤ a ∧ a ≤ 18446744073709551615) (hn : 0 ≤ n ∧ n ≤ 18446744073709551615) (hi : 0 ≤ i ∧ i ≤ 18446744073709551615) :
    hB a n i = mB a n i := by
  unfold hB mB
  rw [IntKind.wrap_u64, IntKind.wrap_u64, Bool.eq_iff_iff]
  split
  · simp; omega
  · split
    · simp; omega
    · simp; omega

theorem holds_any (a n i : Int) (w : World) :
    Calls Try.prog 7 #[.int .u64 a, .int .u64 n, .int .u64 i] w fun e w' => e = .returned (.bool (hB a n i)) ∧ w' = w.alloc (.cells #[.int .u64 a, .int .u64 n] 38) := by
  go_enter Try.func7, Try.ntmps7
  go_wp2
  go_ret
  exact ⟨rfl, rfl⟩

theorem model_any (a n i : Int) (hn : 0 ≤ n ∧ n ≤ 18446744073709551615) (w : World) :
    Calls Try.prog 8 #[.int .u64 a, .int .u64 n, .int .u64 i] w fun e w' => e = .returned (.bool (mB a n i)) ∧ w' = w := by
  have hw : IntKind.u64.wrap (18446744073709551615 - n) = 18446744073709551615 - n := by
    rw [IntKind.wrap_u64]; omega
  by_cases h0 : n = 0
  · go_enter Try.func8, Try.ntmps8
    go_wp2
    go_ret
    exact ⟨ret_bool (by unfold mB; rw [if_pos h0]), rfl⟩
  · by_cases h1 : a ≤ 18446744073709551615 - n
    · by_cases h2 : a ≤ i
      · have hfin : mB a n i = decide (i < IntKind.u64.wrap (a + n)) := by unfold mB; rw [if_neg h0, if_pos h1]; simp [h2]
        have HF : Hid (mB a n i = decide (i < IntKind.u64.wrap (a + n))) := hfin
        clear hfin
        go_enter Try.func8, Try.ntmps8
        go_wp2
        go_ret
        exact ⟨ret_bool HF.out.symm, rfl⟩
      · have hfin : mB a n i = false := by unfold mB; rw [if_neg h0, if_pos h1]; simp [h2]
        have HF : Hid (mB a n i = false) := hfin
        clear hfin
        go_enter Try.func8, Try.ntmps8
        go_wp2
        go_ret
        exact ⟨ret_bool HF.out.symm, rfl⟩
    · have hfin : mB a n i = (decide (a ≤ i) || decide (i < IntKind.u64.wrap (a + n))) := by unfold mB; rw [if_neg h0, if_neg h1]
      have HF : Hid (mB a n i = (decide (a ≤ i) || decide (i < IntKind.u64.wrap (a + n)))) := hfin
      clear hfin
      by_cases h2 : a ≤ i
      · go_enter Try.func8, Try.ntmps8
        go_wp2
        go_ret
        exact ⟨ret_bool (by rw [HF.out]; simp [h2]), rfl⟩
      · go_enter Try.func8, Try.ntmps8
        go_wp2
        go_ret
        exact ⟨ret_bool (by rw [HF.out]; simp; omega), rfl⟩

end Go.Proofs.Qxb6606018a.holdsWalks
