import Derived.Test.Qxb6606018aClone
import Derived.Deep.QuietTactic
import Derived.BigQuiet
namespace Go.Proofs.Qxb6606018a.done
open Go.ChangeShapes Go.WideShapes Go.ChangeAt Go.RowKit

theorem same_any (w : World) (v u : Value) (o : Option (List UInt8)) (hv : HB 0 w v o) (hu : HB 0 w u o) (hl : blen o ≤ 9000000) :
    Calls Try.prog 15 #[v, u] w fun e w' => e = .returned (.bool true) ∧ ∃ q, w' = w.drewN q := by
  have heq : ∀ (w : World) (a : Option Addr) (n c n' c' : Nat), (binOp .eql 31 (.slice a n c) (.slice none n' c')).run Try.prog w = .ok (.bool a.isNone) w := fun w a n c n' c' => Lib.run_eql_slice_nil w _ _ a n c n' c' Try.underlying31
  cases o with
  | none =>
    cases hv
    cases hu
    go_enter Try.func15, Try.ntmps15
    go_wp2
    refine wp_loop_rounds 1 ?_
    rw [rounds_succ]
    go_wp2
    go_ret
    exact ⟨rfl, 0, rfl⟩
  | some l =>
    obtain ⟨a, cap, rfl, hv⟩ := hv
    obtain ⟨a2, cap2, rfl, hu⟩ := hu
    have hl' : l.length ≤ 9000000 := hl
    have hnn : ((l.length : Int) != (l.length : Int)) = false := by simp
    clear hl
    by_cases h0 : l = []
    · subst h0
      clear hv hu
      go_enter Try.func15, Try.ntmps15
      go_wp2
      refine wp_loop_rounds 1 ?_
      rw [rounds_succ]
      go_wp2
      go_ret
      exact ⟨rfl, 0, rfl⟩
    obtain ⟨b, off, rfl, _, hc⟩ := hv h0
    obtain ⟨b2, off2, rfl, _, hc2⟩ := hu h0
    have HC : Hid (∀ i x, l[i]? = some x → w.cell? ⟨b, off + i, none⟩ = some (.int .u8 (x.toNat : Int))) := hc
    have HC2 : Hid (∀ i x, l[i]? = some x → w.cell? ⟨b2, off2 + i, none⟩ = some (.int .u8 (x.toNat : Int))) := hc2
    clear hc hc2 hv hu h0
    go_enter Try.func15, Try.ntmps15
    go_wp2
    go_loopw [5] (fun i wr => ∃ (k q : Nat), k ≤ l.length ∧ i = .int .i64 k ∧ wr = w.drewN q) (fun i _ => l.length - (intOf i).toNat)
    case atStart => exact ⟨0, 0, by omega, rfl, rfl⟩
    case round =>
      obtain ⟨k, q, hk, rfl, rfl⟩ := hrel
      by_cases hlt : k < l.length
      · have c1 := HC.out k l[k] (List.getElem?_eq_getElem hlt)
        have c2 := HC2.out k l[k] (List.getElem?_eq_getElem hlt)
        generalize l[k] = x at c1 c2
        go_wp2
        go_quiet (fail)
        go_wp2
        go_roundw
        case rel => exact ⟨k + 1, q + nq, by omega, by go_num, rfl⟩
        case measure => simp [intOf]; omega
      · go_wp2
        go_ret
        exact ⟨rfl, q, rfl⟩

end Go.Proofs.Qxb6606018a.done
