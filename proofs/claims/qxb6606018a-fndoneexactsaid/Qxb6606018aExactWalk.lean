import Derived.Test.Qxb6606018aDone
namespace Go.Proofs.Qxb6606018a.done
open Go.ChangeShapes Go.WideShapes Go.ChangeAt Go.RowKit

theorem bdrew {B : Nat} {a w : World} (h : Below B a w) (q : Nat) : Below B a (w.drewN q) := ⟨h.os, h.tape, h.output, h.size, h.block⟩

theorem exact_walk (w : World) (A : Option Addr) (cap : Nat) (os : List (Option (List UInt8))) (n : Int) (hr : HR 0 w A os) (hm : os.length ≤ 9223372036854775807) (hn : -9223372036854775808 ≤ n ∧ n ≤ 9223372036854775807) :
    Calls Try.prog 5 #[.slice A os.length cap, .int .i64 n] w fun e w' => e = .returned (.bool true) ∧ Below w.heap.size w w' := by
  have HR0 : Hid (HR 0 w A os) := hr
  have HNB : Hid (-9223372036854775808 ≤ n ∧ n ≤ 9223372036854775807) := hn
  clear hr hn
  go_enter Try.func5, Try.ntmps5
  go_wp2_with fail
  refine (bytes9_any w A cap os n HR0.out hm).mono ?_
  rintro e w' (⟨rfl, rfl⟩ | ⟨rfl, rfl⟩)
  case inr =>
    go_wp2
    go_ret
    exact ⟨rfl, Below.refl _ _⟩
  go_wp2_with fail
  refine (tooBig_any w' A cap os HR0.out hm).mono ?_
  rintro e w'' (⟨rfl, rfl⟩ | ⟨rfl, hl, rfl⟩)
  case inl =>
    go_wp2
    go_ret
    exact ⟨rfl, Below.refl _ _⟩
  have HL : Hid (24 * os.length + tlen os ≤ 1048576) := hl
  clear hl
  go_wp2_with fail
  refine (cloneBatch_any w'' A cap os HR0.out HL.out).mono ?_
  rintro e w1 ⟨A1, c1, rfl, _, hA1, hr1, hb1⟩
  have HA1 : Hid (A1 = none → c1 = 0) := hA1
  have HR1 : Hid (HR 0 w1 A1 os) := fun h => by
    obtain ⟨b, off, e, h1, h2⟩ := hr1 h
    refine ⟨b, off, e, Nat.zero_le _, fun i o ho => ?_⟩
    obtain ⟨v, hv, hh⟩ := h2 i o ho
    exact ⟨v, hv, hh.lower (Nat.zero_le _)⟩
  have HB1 : Hid (Below w''.heap.size w'' w1) := hb1
  clear hA1 hr1 hb1
  go_wp2_with fail
  refine (new_any w1 A1 os.length c1 n).mono ?_
  rintro e w2 ⟨rfl, hw2⟩
  have HBA : Hid (BatchAt w1 w2 w1.heap.size A1 c1 os n) := by
    rw [hw2]
    exact ⟨HA1.out, HL.out, HR1.out, (Below.refl _ _).alloc (Nat.le_refl _) _, Nat.le_refl _, heap_alloc_new _ _⟩
  clear hw2
  go_wp2_with fail
  refine (zzdone_any w1 w2 w1.heap.size A1 c1 os n HBA.out).mono ?_
  rintro e w3 ⟨v, rfl, hv, hba⟩
  have HV : Hid (HB 0 w3 v (answer os (wrap64 (n - 1)))) := hv
  have HBA3 : Hid (BatchAt w1 w3 w1.heap.size A1 c1 os (wrap64 (n - 1))) := hba
  clear hv hba HBA
  obtain ⟨av, cv, rfl⟩ := HV.out.shape
  have hlen : blen (encode os) ≤ 9000000 := by have := encode_len os; have := HL.out; omega
  have hbelow : ∀ W, Below w3.heap.size w3 W → Below w''.heap.size w'' W := fun W h => HB1.out.trans ((HBA3.out.below.trans (h.mono HBA3.out.below.size)).mono HB1.out.size)
  have HBL : Hid (∀ W, Below w3.heap.size w3 W → Below w''.heap.size w'' W) := hbelow
  clear hbelow
  by_cases h1 : n = 1
  · have hw0 : wrap64 (n - 1) = 0 := by unfold wrap64; omega
    have HAN : Hid (answer os (wrap64 (n - 1)) = encode os) := by unfold answer; rw [if_pos hw0]; rfl
    have h1' : (n == 1) = true := by rw [h1]; rfl
    clear h1 hw0
    generalize blen (answer os (wrap64 (n - 1))) = lv at *
    go_wp2_with fail
    refine (model_any w3 A1 c1 os (HR1.out.keep (below_keeps HBA3.out.below)) HL.out).mono ?_
    rintro e w4 ⟨u, rfl, hu, hb4⟩
    obtain ⟨au, cu, rfl⟩ := hu.shape
    have HU : Hid (HB 0 w4 (.slice au (blen (encode os)) cu) (encode os)) := hu.lower (Nat.zero_le _)
    have HV4 : Hid (HB 0 w4 (.slice av lv cv) (encode os)) := by
      have := HV.out.keep (below_keeps hb4)
      rw [HAN.out] at this
      exact this
    have HBA4 : Hid (BatchAt w1 w4 w1.heap.size A1 c1 os (wrap64 (n - 1))) := HBA3.out.grown hb4
    have HB4 : Hid (Below w3.heap.size w3 w4) := hb4
    clear hu hb4 HV HBA3
    go_wp2_with fail
    refine (same_any w4 _ _ (encode os) HV4.out HU.out hlen).mono ?_
    rintro e w5 ⟨rfl, q, rfl⟩
    have hc5 : (w4.drewN q).cell? ⟨w1.heap.size, 1, none⟩ = some (.int .i64 (wrap64 (n - 1))) := HBA4.out.left
    have HC5 : Hid ((w4.drewN q).cell? ⟨w1.heap.size, 1, none⟩ = some (.int .i64 (wrap64 (n - 1)))) := hc5
    clear hc5
    have hee : (wrap64 (n - 1) == wrap64 (n - 1)) = true := by simp
    go_wp2_with (go_at_call 16; refine (left_any _ _ _ HC5.out).mono ?_; rintro e w6 ⟨rfl, rfl⟩)
    go_ret
    exact ⟨rfl, HBL.out _ (bdrew HB4.out q)⟩
  · have hw0 : wrap64 (n - 1) ≠ 0 := by have := HNB.out; unfold wrap64; omega
    have HAN : Hid (answer os (wrap64 (n - 1)) = none) := by unfold answer; rw [if_neg hw0]; rfl
    have h1' : (n == 1) = false := beq_eq_false_iff_ne.2 h1
    have hV0 := HV.out
    rw [HAN.out] at hV0
    have e0 : Value.slice av (blen (answer os (wrap64 (n - 1)))) cv = .slice none 0 0 := by rw [HAN.out]; exact hV0
    rw [e0]
    clear h1 hw0 hV0 e0 HV
    go_wp2_with fail
    refine (same_any w3 _ _ none rfl rfl (by simp [blen])).mono ?_
    rintro e w5 ⟨rfl, q, rfl⟩
    have HC5 : Hid ((w3.drewN q).cell? ⟨w1.heap.size, 1, none⟩ = some (.int .i64 (wrap64 (n - 1)))) := HBA3.out.left
    have hee : (wrap64 (n - 1) == wrap64 (n - 1)) = true := by simp
    go_wp2_with (go_at_call 16; refine (left_any _ _ _ HC5.out).mono ?_; rintro e w6 ⟨rfl, rfl⟩)
    go_ret
    exact ⟨rfl, HBL.out _ (bdrew (Below.refl _ _) q)⟩

end Go.Proofs.Qxb6606018a.done
