import Derived.Test.Qxb6608689aDivWalks
import Derived.Laws.BytesArg
namespace Go.Proofs.Qxb6608689a.labelWalks
open Go.ChangeShapes Go.WideShapes Go.ChangeAt Go.RowKit
open Go.Proofs.Qxb6608689a.bytes

theorem arrayLen62 : Try.prog.arrayLen 62 = 20 := by kernel_rfl
theorem elem62 : Try.prog.elem 62 = 5 := by kernel_rfl
theorem under62 : Try.prog.underlying 62 = some (.array (Try.prog.arrayLen 62) (Try.prog.elem 62)) := by rw [arrayLen62, elem62]; kernel_rfl
theorem under63 : Try.prog.underlying 63 = some (.slice 5) := by kernel_rfl

/-- 'buf[i:]' -/
theorem slice_buf (b n : Nat) (hn : n < 20) (w : World) :
    (Instr.sliceAt 62 (.pointer (some ⟨b, 0, none⟩)) (some (.int .i64 (n : Int))) none none).run Try.prog w = .ok (.slice (some ⟨b, n, none⟩) (20 - n) (20 - n)) w := by
  rw [run_sliceAt_array_l w 62 _ under62 .i64 n (by omega) (by rw [arrayLen62]; omega), elem62, arrayLen62]
  have hs : (sizeOf 5).run Try.prog w = .ok 1 w := by kernel_rfl
  rw [hs]
  have hne : ¬ 20 = n := by omega
  simp [slicedAt, hne, Addr.add]
  omega

def nums (s : ByteArray) : List Int := s.data.toList.map fun b => (b.toNat : Int)
theorem nums_length (s : ByteArray) : (nums s).length = s.size := by simp [nums]
theorem strOf_nums (s : ByteArray) : strOfNums (nums s) = s := by
  apply ByteArray.ext
  apply Array.ext'
  rw [strOfNums_data]
  unfold nums
  rw [List.map_map]
  conv => rhs; rw [← List.map_id s.data.toList]
  apply List.map_congr_left
  intro b _
  simp
theorem nums_get {s : ByteArray} {j : Nat} : (nums s).getD j 0 = (at' s j : Int) := by
  unfold nums at'
  rw [List.getD_eq_getElem?_getD, List.getElem?_map, List.getD_eq_getElem?_getD]
  cases s.data.toList[j]? <;> rfl

theorem conv_buf (s : ByteArray) (b q n : Nat) (hn : n = s.size) (w : World) (hc : ∀ j, j < s.size → w.cell? ⟨b, q + j, none⟩ = some (.int .u8 (at' s j))) :
    (convert 63 9 (.slice (some ⟨b, q, none⟩) n n)).run Try.prog w = .ok (.string s) w := by
  have h := run_convert_bytes_arg (P := Try.prog) w 63 5 under63 Try.underlying5 b q n n (nums s) (by rw [nums_length, hn]) (fun i hi => by rw [hc i (by omega), nums_get]) 9 Try.underlying9
  rw [strOf_nums] at h
  exact h

theorem itoa_any (s : ByteArray) (w : World) (hd : IsDiv s) :
    Calls Try.prog 28 #[.int .i64 (valTo s s.size)] w fun e w' => e = .returned (.string s) ∧ Grown w w' := by
  have hv := val_lt9 hd (Nat.le_refl s.size)
  have hpos := hd.pos
  have hfew := hd.few
  have HD : Hid (IsDiv s) := hd
  clear hd
  have hneg : decide ((valTo s s.size : Int) < 0) = false := by simp
  obtain ⟨q, hq⟩ : ∃ q, q + s.size = 20 := ⟨20 - s.size, by omega⟩
  have HQ : Hid (q + s.size = 20) := hq
  have hq1 : q + s.size ≤ 20 := by omega
  clear hq
  go_enter Try.func28, Try.ntmps28
  go_wp2
  go_loopw [4, 6] (fun u i wr => ∃ (k : Nat) (arr : Array Value), k + 1 ≤ s.size ∧ u = .int .u64 (valTo s (k + 1)) ∧ i = .int .i64 ((q + k : Nat) + 1) ∧ arr.size = 20 ∧ (∀ j, k + 1 ≤ j → j < s.size → arr[q + j]? = some (.int .u8 (at' s j))) ∧ wr = w.alloc (.cells arr 62)) (fun _ i _ => (intOf i).toNat)
  case atStart =>
    refine ⟨s.size - 1, _, by omega, ?_, ?_, rfl, fun j h1 h2 => by omega, rfl⟩
    · rw [Nat.sub_add_cancel (by omega)]
    · have := HQ.out
      rw [show ((q + (s.size - 1) : Nat) : Int) + 1 = 20 by omega]
  case round =>
    obtain ⟨k, arr, hk, rfl, rfl, hsz, hcells, rfl⟩ := hrel
    have HC : Hid (∀ j, k + 1 ≤ j → j < s.size → arr[q + j]? = some (.int .u8 (at' s j))) := hcells
    clear hcells
    have hvk := val_lt9 HD.out (k := k + 1) hk
    have hdg := HD.out.digit k (by omega)
    have hlt : q + k < 20 := by omega
    have hmod : (48 : Int) + (valTo s (k + 1) : Int) % 10 = (at' s k : Int) := by rw [valTo_succ]; omega
    cases k with
    | zero =>
      have hz : ((valTo s (0 + 1) : Int) / 10 == 0) = true := beqt (by rw [valTo_succ]; show ((0 * 10 + (at' s 0 - 48) : Nat) : Int) / 10 = 0; omega)
      have hv1 : valTo s (0 + 1) ≤ 9 := by rw [valTo_succ]; show 0 * 10 + (at' s 0 - 48) ≤ 9; omega
      simp only [Nat.add_zero, Nat.zero_add] at hmod hz hlt hv1
      rw [Nat.zero_add]
      have hsl := fun wx => slice_buf w.heap.size q hlt wx
      have hcv := conv_buf s w.heap.size q (20 - q) (by have := HQ.out; omega) (w.alloc (Obj.cells (arr.setIfInBounds q (Value.int IntKind.u8 (at' s 0))) 62)) (fun j hj => by
        rw [World.cell?_alloc_new, Array.getElem?_setIfInBounds]
        by_cases e : j = 0
        · subst e
          rw [Nat.add_zero, if_pos rfl, if_pos (by omega)]
        · rw [if_neg (by omega)]
          exact HC.out j (by omega) hj)
      go_wp2
      go_ret
      exact ⟨rfl, by repeat (first | exact Grown.refl _ | apply Grown.drew | apply Grown.alloc)⟩
    | succ m =>
      have hvp := val_pos HD.out m (by omega)
      have hz : ((valTo s (m + 1 + 1) : Int) / 10 == 0) = false := beqf (by rw [valTo_succ]; omega)
      have HV : Hid ((valTo s (m + 1 + 1) : Int) / 10 = (valTo s (m + 1) : Int)) := by
        show ((valTo s (m + 1 + 1) : Nat) : Int) / 10 = _
        rw [valTo_succ s (m + 1)]; omega
      have HM : Hid ((48 : Int) + (valTo s (m + 1 + 1) : Int) % 10 = (at' s (m + 1) : Int)) := hmod
      clear hmod
      go_wp2
      go_roundw
      case rel =>
        refine ⟨m, _, by omega, by rw [HV.out], by go_num, ?_, ?_, rfl⟩
        · rw [Array.size_setIfInBounds]; exact hsz
        · intro j h1 h2
          rw [HM.out, Array.getElem?_setIfInBounds]
          by_cases e : j = m + 1
          · subst e
            rw [if_pos rfl, if_pos (by omega)]
          · rw [if_neg (by omega)]
            exact HC.out j (by omega) h2
      case measure => simp [intOf]; omega

end Go.Proofs.Qxb6608689a.labelWalks
