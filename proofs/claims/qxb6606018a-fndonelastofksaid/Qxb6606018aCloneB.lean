import Derived.Test.Qxb6606018aClone
namespace Go.Proofs.Qxb6606018a.done
open Go.ChangeShapes Go.WideShapes Go.ChangeAt Go.RowKit

theorem frozen_of_blk {w : World} {g : Nat} {C : Array Value} {t : TypeId} (h : w.heap[g]? = some (.cells C t (0, 0))) (i : Nat) : w.frozen? ⟨g, i, none⟩ = false := by
  simp [World.frozen?, h]
theorem blk_setCell {w : World} {g : Nat} {C : Array Value} {t : TypeId} (h : w.heap[g]? = some (.cells C t (0, 0))) (i : Nat) (v : Value) : (w.setCell ⟨g, i, none⟩ v).heap[g]? = some (.cells (C.setIfInBounds i v) t (0, 0)) := by
  simp [World.setCell, Array.getElem?_modify, h]
theorem blk_lt {w : World} {g : Nat} {o : Obj} (h : w.heap[g]? = some o) : g < w.heap.size := (Array.getElem?_eq_some_iff.1 h).1

/-- what the clone's row holds behind k rounds -/
structure CloneInv (B : Nat) (w0 w : World) (os : List (Option (List UInt8))) (k : Nat) (C : Array Value) : Prop where
  size : C.size = os.length
  blk : w.heap[B]? = some (.cells C 31 (0, 0))
  below : Below B w0 w
  held : ∀ (j : Nat) o, j < k → os[j]? = some o → ∃ v, C[j]? = some v ∧ HB (B + 1) w v o

theorem CloneInv.step {B : Nat} {w0 w w2 : World} {os : List (Option (List UInt8))} {k : Nat} {C : Array Value} {v : Value} {o : Option (List UInt8)} (h : CloneInv B w0 w os k C)
    (ho : os[k]? = some o) (hb : HB w.heap.size w2 v o) (hw : Below w.heap.size w w2) : CloneInv B w0 (w2.setCell ⟨B, k, none⟩ v) os (k + 1) (C.setIfInBounds k v) := by
  have hBl := blk_lt h.blk
  have hk : k < os.length := (List.getElem?_eq_some_iff.1 ho).1
  have h2 : w2.heap[B]? = some (.cells C 31 (0, 0)) := (hw.block B hBl).trans h.blk
  refine ⟨by rw [Array.size_setIfInBounds]; exact h.size, blk_setCell h2 k v, (h.below.trans (hw.mono (by omega))).setCell (Nat.le_refl _) _, fun j o' hj ho' => ?_⟩
  by_cases e : j = k
  · subst e
    rw [ho] at ho'
    obtain rfl := Option.some.inj ho'
    refine ⟨v, ?_, (hb.lower (by omega)).keep (Keeps.setCell (by omega) _)⟩
    rw [Array.getElem?_setIfInBounds, if_pos rfl, if_pos (by have := h.size; omega)]
  · obtain ⟨v', hv', hh⟩ := h.held j o' (by omega) ho'
    refine ⟨v', ?_, (hh.keep (Keeps.of_below hw)).keep (Keeps.setCell (by omega) _)⟩
    rw [Array.getElem?_setIfInBounds, if_neg (by omega)]
    exact hv'

theorem cloneBatch_any (w : World) (A : Option Addr) (cap : Nat) (os : List (Option (List UInt8))) (hr : HR 0 w A os) (hl : 24 * os.length + tlen os ≤ 1048576) :
    Calls Try.prog 11 #[.slice A os.length cap] w fun e w' => ∃ A' cap', e = .returned (.slice A' os.length cap') ∧ os.length ≤ cap' ∧ (A' = none → cap' = 0) ∧ HR w.heap.size w' A' os ∧ Below w.heap.size w w' := by
  have heq : ∀ (w : World) (a : Option Addr) (n c n' c' : Nat), (binOp .eql 25 (.slice a n c) (.slice none n' c')).run Try.prog w = .ok (.bool a.isNone) w := fun w a n c n' c' => Lib.run_eql_slice_nil w _ _ a n c n' c' Try.underlying25
  cases A with
  | none =>
    have h0 : os = [] := by
      apply Classical.byContradiction
      intro hne
      obtain ⟨_, _, e, _⟩ := hr hne
      cases e
    subst h0
    go_enter Try.func11, Try.ntmps11
    go_wp2
    go_ret
    exact ⟨none, 0, rfl, Nat.le_refl _, fun _ => rfl, fun h => absurd rfl h, Below.refl _ _⟩
  | some a =>
    have hmk := run_make_row' (P := Try.prog) 25 31 (.slice none 0 0) 24 Try.underlying25 info31 rfl .i64 .i64 os.length (by omega) (by omega)
    have hn : os.length ≤ 1048576 := by omega
    have HR0 : Hid (HR 0 w (some a) os) := hr
    clear hr
    have HL : Hid (24 * os.length + tlen os ≤ 1048576) := hl
    clear hl
    go_enter Try.func11, Try.ntmps11
    go_wp2
    go_loopw [4] (fun i wr => ∃ (k : Nat) (C : Array Value), k ≤ os.length ∧ i = .int .i64 k ∧ Hid (CloneInv w.heap.size w wr os k C)) (fun i _ => os.length - (intOf i).toNat)
    case atStart => 
      refine ⟨0, _, by omega, rfl, (⟨size_madeCells _ _, heap_alloc_new _ _, (Below.refl _ _).alloc (Nat.le_refl _) _, fun j o h => by omega⟩ : CloneInv _ _ _ _ _ _)⟩
    case round =>
      obtain ⟨k, C, hk, rfl, HI⟩ := hrel
      by_cases hlt : k < os.length
      · obtain ⟨b, off, ea, _, hc⟩ := HR0.out (by intro e; rw [e] at hlt; simp at hlt)
        injection ea with ea
        subst ea
        obtain ⟨v, hv, hb⟩ := hc k os[k] (List.getElem?_eq_getElem hlt)
        have hbl := World.block_lt_of_cell? _ _ hv
        have hv' : wr.cell? ⟨b, off + k, none⟩ = some v := (HI.out.below.cell (p := ⟨b, off + k, none⟩) hbl).trans hv
        have hb' : Hid (HB 0 wr v os[k]) := hb.keep (fun b' o' v' _ h => (HI.out.below.cell (p := ⟨b', o', none⟩) (World.block_lt_of_cell? _ _ h)).trans h)
        have hbz : Hid (blen os[k] ≤ 1048576) := by
          have h1 := tlen_take_succ (List.getElem?_eq_getElem hlt)
          have h2 := tlen_take_le os (k + 1)
          have h3 := HL.out
          show blen os[k] ≤ 1048576
          omega
        have hok : Hid (os[k]? = some os[k]) := List.getElem?_eq_getElem hlt
        generalize os[k] = o at hb' hbz hok
        clear hc hb hv hbl
        obtain ⟨a', c', rfl⟩ := hb'.out.shape
        go_wp2_with fail
        refine (cloneBytes_any wr _ o hb'.out hbz.out).mono ?_
        rintro e w2 ⟨v', rfl, hb2, hw2⟩
        have HI2 : Hid (CloneInv w.heap.size w (w2.setCell ⟨w.heap.size, k, none⟩ v') os (k + 1) (C.setIfInBounds k v')) := HI.out.step hok.out hb2 hw2
        have hblk : w2.heap[w.heap.size]? = some (.cells C 31 (0, 0)) := (hw2.block _ (blk_lt HI.out.blk)).trans HI.out.blk
        have hfz := frozen_of_blk hblk k
        obtain ⟨old, hold⟩ : ∃ old, w2.cell? ⟨w.heap.size, k, none⟩ = some old := by
          rw [cell_of_blk hblk]
          exact ⟨_, Array.getElem?_eq_getElem (by have := HI.out.size; omega)⟩
        obtain ⟨a2, c2, rfl⟩ := hb2.shape
        clear hblk hb2 hw2 hb' HI hv'
        go_wp2
        go_roundw
        case rel => exact ⟨k + 1, _, by omega, by go_num, HI2⟩
        case measure => simp [intOf]; omega
      · go_wp2
        go_ret
        have hke : k = os.length := by omega
        subst hke
        refine ⟨_, _, rfl, Nat.le_refl _, (fun h => by cases h), fun _ => ⟨_, 0, rfl, Nat.le_refl _, fun i o ho => ?_⟩, HI.out.below⟩
        obtain ⟨v, hv, hb⟩ := HI.out.held i o (List.getElem?_eq_some_iff.1 ho).1 ho
        exact ⟨v, by rw [cell_of_blk HI.out.blk, Nat.zero_add]; exact hv, hb.lower (by omega)⟩

end Go.Proofs.Qxb6606018a.done
