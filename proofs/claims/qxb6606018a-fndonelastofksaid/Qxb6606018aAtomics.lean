import Derived.Test.Qxb6606018aRows
import Derived.WalkKit
import Derived.ProofKit
import Derived.OpenShut
import Derived.Laws.LoneSync
namespace Go.Proofs.Qxb6606018a.done
open Go.ChangeShapes Go.WideShapes Go.ChangeAt Go.RowKit

/-- 'b.left.Load()' -/
theorem left_any (w : World) (b : Nat) (n : Int) (h : w.cell? ⟨b, 1, none⟩ = some (.int .i64 n)) :
    Calls Try.prog 16 #[.pointer (some ⟨b, 0, none⟩)] w fun e w' => e = .returned (.int .i64 n) ∧ w' = w := by
  have hld := run_call_load (P := Try.prog) Try.func26 (by kernel_rfl) (by kernel_rfl) (by kernel_rfl) .i64 (by kernel_rfl) h
  go_enter Try.func16, Try.ntmps16
  go_wp2
  go_ret
  exact ⟨rfl, rfl⟩

/-- 'b.left.Add(-1)' -/
theorem add_any (w : World) (b : Nat) (n : Int) (h : w.cell? ⟨b, 1, none⟩ = some (.int .i64 n)) (hz : w.frozen? ⟨b, 1, none⟩ = false) :
    Calls Try.prog 24 #[.pointer (some ⟨b, 1, none⟩), .int .i64 (-1)] w fun e w' => e = .returned (.int .i64 (wrap64 (n - 1))) ∧ w' = w.setCell ⟨b, 1, none⟩ (.int .i64 (wrap64 (n - 1))) := by
  have hadd := run_call_add (P := Try.prog) Try.func27 (by kernel_rfl) (by kernel_rfl) (by kernel_rfl) .i64 (by kernel_rfl) (y := -1) (s := wrap64 (n - 1)) h hz (by simp [go_sem, wrap64, IntKind.wrap_i64]; rfl)
  clear h hz
  go_enter Try.func24, Try.ntmps24
  go_wp2
  go_ret
  exact ⟨rfl, rfl⟩

/-- the box of a batch -/
def batchObj (rv : Value) (n : Int) : Obj := .cells #[rv, .int .i64 n] 47

theorem new_any (w : World) (a : Option Addr) (l c : Nat) (n : Int) :
    Calls Try.prog 12 #[.slice a l c, .int .i64 n] w fun e w' => e = .returned (.pointer (some ⟨w.heap.size, 0, none⟩)) ∧ w' = w.alloc (batchObj (.slice a l c) n) := by
  have hst := run_call_store (P := Try.prog) Try.func23 (by kernel_rfl) (by kernel_rfl) (by kernel_rfl) (by kernel_rfl) (k := .i64) (y := n) (a := ⟨w.heap.size, 1, none⟩) (w := w.alloc (.cells #[.slice a l c, .int .i64 0] 47)) (u := .int .i64 0) (by simp) (by simp)
  go_enter Try.func12, Try.ntmps12
  go_wp2
  go_end0
  go_wp2
  go_ret
  exact ⟨rfl, rfl⟩
end Go.Proofs.Qxb6606018a.done
