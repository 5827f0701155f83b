import Derived.Test.Qxb6606018aBatch
import Derived.Test.Qxb6606018aAtomics
import Derived.Test.Qxb6606018aGuards
import Derived.Test.Qxb6606018aSame
namespace Go.Proofs.Qxb6606018a.done
open Go.ChangeShapes Go.WideShapes Go.ChangeAt Go.RowKit

/-- a batch lies in block b: its replies os (which lay in w0 already), n parties left -/
structure BatchAt (w0 w : World) (b : Nat) (A : Option Addr) (cap : Nat) (os : List (Option (List UInt8))) (n : Int) : Prop where
  nil : A = none → cap = 0
  small : 24 * os.length + tlen os ≤ 1048576
  row : HR 0 w0 A os
  below : Below w0.heap.size w0 w
  own : w0.heap.size ≤ b
  blk : w.heap[b]? = some (.cells #[.slice A os.length cap, .int .i64 n] 47 (0, 0))

theorem BatchAt.left {w0 w : World} {b : Nat} {A : Option Addr} {cap : Nat} {os : List (Option (List UInt8))} {n : Int} (h : BatchAt w0 w b A cap os n) : w.cell? ⟨b, 1, none⟩ = some (.int .i64 n) := by
  rw [cell_of_blk h.blk]; rfl
theorem BatchAt.replies {w0 w : World} {b : Nat} {A : Option Addr} {cap : Nat} {os : List (Option (List UInt8))} {n : Int} (h : BatchAt w0 w b A cap os n) : w.cell? ⟨b, 0, none⟩ = some (.slice A os.length cap) := by
  rw [cell_of_blk h.blk]; rfl
theorem BatchAt.set {w0 w : World} {b : Nat} {A : Option Addr} {cap : Nat} {os : List (Option (List UInt8))} {n : Int} (h : BatchAt w0 w b A cap os n) (m : Int) : BatchAt w0 (w.setCell ⟨b, 1, none⟩ (.int .i64 m)) b A cap os m :=
  ⟨h.nil, h.small, h.row, h.below.setCell h.own _, h.own, blk_setCell h.blk 1 _⟩
theorem BatchAt.grown {w0 w w' : World} {b : Nat} {A : Option Addr} {cap : Nat} {os : List (Option (List UInt8))} {n : Int} (h : BatchAt w0 w b A cap os n) (hb : Below w.heap.size w w') : BatchAt w0 w' b A cap os n :=
  ⟨h.nil, h.small, h.row, h.below.trans (hb.mono h.below.size), h.own, (hb.block b (blk_lt h.blk)).trans h.blk⟩

/-- what one call of done hands back -/
def answer (os : List (Option (List UInt8))) (m : Int) : Option (List UInt8) := if m = 0 then encode os else none

theorem done_any (w0 w : World) (b : Nat) (A : Option Addr) (cap : Nat) (os : List (Option (List UInt8))) (n : Int) (h : BatchAt w0 w b A cap os n) :
    Calls Try.prog 21 #[.pointer (some ⟨b, 0, none⟩)] w fun e w' => ∃ v, e = .returned v ∧ HB 0 w' v (answer os (wrap64 (n - 1))) ∧ BatchAt w0 w' b A cap os (wrap64 (n - 1)) := by
  have H : Hid (BatchAt w0 w b A cap os n) := h
  have H1 : Hid (BatchAt w0 (w.setCell ⟨b, 1, none⟩ (.int .i64 (wrap64 (n - 1)))) b A cap os (wrap64 (n - 1))) := h.set _
  have hrep := h.set (wrap64 (n - 1)) |>.replies
  clear h
  go_enter Try.func21, Try.ntmps21
  go_wp2_with fail
  refine (add_any w b n H.out.left (frozen_of_blk H.out.blk 1)).mono ?_
  rintro e w1 ⟨rfl, hw1⟩
  rw [← hw1] at hrep H1
  clear hw1
  by_cases hm : wrap64 (n - 1) = 0
  · have hm' : (wrap64 (n - 1) == 0) = true := by rw [hm]; rfl
    have HM : Hid (answer os (wrap64 (n - 1)) = encode os) := by unfold answer; rw [if_pos hm]; rfl
    clear hm
    go_wp2_with fail
    refine (encode_any w1 A cap os H1.out.nil (H1.out.row.keep (below_keeps H1.out.below)) H1.out.small).mono ?_
    rintro e w2 ⟨v, rfl, hv, hb⟩
    have HV : Hid (HB 0 w2 v (encode os)) := hv.lower (Nat.zero_le _)
    have HB2 : Hid (BatchAt w0 w2 b A cap os (wrap64 (n - 1))) := H1.out.grown hb
    clear hv hb
    go_wp2
    go_ret
    exact ⟨_, rfl, by rw [HM.out]; exact HV.out, HB2.out⟩
  · have hm' : (wrap64 (n - 1) == 0) = false := beq_eq_false_iff_ne.2 hm
    have HM : Hid (answer os (wrap64 (n - 1)) = none) := by unfold answer; rw [if_neg hm]; rfl
    clear hm
    go_wp2
    go_ret
    exact ⟨_, rfl, by rw [HM.out]; rfl, H1.out⟩

theorem zzdone_any (w0 w : World) (b : Nat) (A : Option Addr) (cap : Nat) (os : List (Option (List UInt8))) (n : Int) (h : BatchAt w0 w b A cap os n) :
    Calls Try.prog 13 #[.pointer (some ⟨b, 0, none⟩)] w fun e w' => ∃ v, e = .returned v ∧ HB 0 w' v (answer os (wrap64 (n - 1))) ∧ BatchAt w0 w' b A cap os (wrap64 (n - 1)) := by
  have H : Hid (BatchAt w0 w b A cap os n) := h
  clear h
  go_enter Try.func13, Try.ntmps13
  go_wp2_with fail
  refine (done_any w0 w b A cap os n H.out).mono ?_
  rintro e w2 ⟨v, rfl, hv, hb⟩
  have HV : Hid (HB 0 w2 v (answer os (wrap64 (n - 1)))) := hv
  have HB2 : Hid (BatchAt w0 w2 b A cap os (wrap64 (n - 1))) := hb
  clear hv hb
  go_wp2
  go_ret
  exact ⟨_, rfl, HV.out, HB2.out⟩

end Go.Proofs.Qxb6606018a.done
