import Derived.Test.Qxb6606018aExactWalk
namespace Go.Proofs.Qxb6606018a.done
open Go.ChangeShapes Go.WideShapes Go.ChangeAt Go.RowKit

theorem last_walk (w : World) (A : Option Addr) (cap : Nat) (os : List (Option (List UInt8))) (n : Int) (hr : HR 0 w A os) (hm : os.length ≤ 9223372036854775807) :
    Calls Try.prog 6 #[.slice A os.length cap, .int .i64 n] w fun e w' => e = .returned (.bool true) ∧ Below w.heap.size w w' := by
  have hneq : ∀ (w : World) (a : Option Addr) (n c n' c' : Nat), (binOp .neq 31 (.slice a n c) (.slice none n' c')).run Try.prog w = .ok (.bool (!a.isNone)) w := fun w a n c n' c' => run_neq_slice_nil_any w _ _ a n c n' c' Try.underlying31
  have HR0 : Hid (HR 0 w A os) := hr
  clear hr
  go_enter Try.func6, Try.ntmps6
  go_wp2_with fail
  refine (bytes17_any w A cap os n HR0.out hm).mono ?_
  rintro e w' (⟨rfl, rfl⟩ | ⟨rfl, rfl⟩)
  case inr =>
    go_wp2
    go_ret
    exact ⟨rfl, Below.refl _ _⟩
  go_wp2_with fail
  refine (tooBig_any w' A cap os HR0.out hm).mono ?_
  rintro e w'' (⟨rfl, rfl⟩ | ⟨rfl, hl, rfl⟩)
  case inl =>
    go_wp2
    go_ret
    exact ⟨rfl, Below.refl _ _⟩
  have HL : Hid (24 * os.length + tlen os ≤ 1048576) := hl
  clear hl
  by_cases hn1 : n < 1
  · go_wp2
    go_ret
    exact ⟨rfl, Below.refl _ _⟩
  by_cases hn2 : 65536 < n
  · go_wp2
    go_ret
    exact ⟨rfl, Below.refl _ _⟩
  obtain ⟨K, rfl⟩ : ∃ K : Nat, n = (K : Int) := ⟨n.toNat, by omega⟩
  have hK1 : 1 ≤ K := by omega
  have hK2 : K ≤ 65536 := by omega
  have hd1 : decide ((K : Int) < 1) = false := by simp; omega
  have hd2 : decide (65536 < (K : Int)) = false := by simp; omega
  clear hn1 hn2
  go_wp2_with fail
  refine (cloneBatch_any w'' A cap os HR0.out HL.out).mono ?_
  rintro e w1 ⟨A1, c1, rfl, _, hA1, hr1, hb1⟩
  have HA1 : Hid (A1 = none → c1 = 0) := hA1
  have HR1 : Hid (HR 0 w1 A1 os) := fun h => by
    obtain ⟨b, off, e, h1, h2⟩ := hr1 h
    refine ⟨b, off, e, Nat.zero_le _, fun i o ho => ?_⟩
    obtain ⟨v, hv, hh⟩ := h2 i o ho
    exact ⟨v, hv, hh.lower (Nat.zero_le _)⟩
  have HB1 : Hid (Below w''.heap.size w'' w1) := hb1
  clear hA1 hr1 hb1
  go_wp2_with fail
  refine (model_any w1 A1 c1 os HR1.out HL.out).mono ?_
  rintro e w2 ⟨u, rfl, hu, hb2⟩
  obtain ⟨au, cu, rfl⟩ := hu.shape
  have HU : Hid (HB 0 w2 (.slice au (blen (encode os)) cu) (encode os)) := hu.lower (Nat.zero_le _)
  have HR2 : Hid (HR 0 w2 A1 os) := HR1.out.keep (below_keeps hb2)
  have HB2 : Hid (Below w''.heap.size w'' w2) := HB1.out.trans (hb2.mono HB1.out.size)
  have hlen : blen (encode os) ≤ 9000000 := by have := encode_len os; have := HL.out; omega
  clear hu hb2 HB1 HR1
  generalize blen (encode os) = lu at HU
  go_wp2_with fail
  refine (new_any w2 A1 os.length c1 K).mono ?_
  rintro e w3 ⟨rfl, hw3⟩
  have HBA : Hid (BatchAt w2 w3 w2.heap.size A1 c1 os ((K - 0 : Nat) : Int)) := by
    rw [hw3]
    exact ⟨HA1.out, HL.out, HR2.out, (Below.refl _ _).alloc (Nat.le_refl _) _, Nat.le_refl _, heap_alloc_new _ _⟩
  clear hw3
  go_wp2
  go_loopw [7] (fun i wr => ∃ j : Nat, j ≤ K ∧ i = .int .i64 ((j : Int) + 1) ∧ Hid (BatchAt w2 wr w2.heap.size A1 c1 os ((K - j : Nat) : Int))) (fun i _ => K + 1 - (intOf i).toNat)
  case atStart => exact ⟨0, by omega, rfl, HBA⟩
  case round =>
    clear HBA
    obtain ⟨j, hj, rfl, HJ⟩ := hrel
    by_cases hlt : j < K
    · go_wp2_with fail
      refine (zzdone_any w2 wr w2.heap.size A1 c1 os _ HJ.out).mono ?_
      rintro e w4 ⟨v, rfl, hv, hba⟩
      have hwr : wrap64 (((K - j : Nat) : Int) - 1) = ((K - (j + 1) : Nat) : Int) := by unfold wrap64; omega
      rw [hwr] at hv hba
      have HJ2 : Hid (BatchAt w2 w4 w2.heap.size A1 c1 os ((K - (j + 1) : Nat) : Int)) := hba
      clear hba hwr HJ
      by_cases hlast : j + 1 = K
      · have HAN : Hid (answer os ((K - (j + 1) : Nat) : Int) = encode os) := by unfold answer; rw [if_pos (by omega)]; rfl
        obtain ⟨av, cv, rfl⟩ := hv.shape
        have HV : Hid (HB 0 w4 (.slice av (blen (answer os ((K - (j + 1) : Nat) : Int))) cv) (encode os)) := by
          rw [HAN.out] at hv ⊢
          exact hv
        generalize blen (answer os ((K - (j + 1) : Nat) : Int)) = lv at HV ⊢
        have t1 : decide ((j : Int) + 1 < (K : Int)) = false := by simp; omega
        have t2 : ((j : Int) + 1 == (K : Int)) = true := beq_iff_eq.2 (by omega)
        have HLS : Hid (j + 1 = K) := hlast
        clear hlast hv
        have HU4 : Hid (HB 0 w4 (.slice au lu cu) (encode os)) := HU.out.keep (below_keeps HJ2.out.below)
        go_wp2_with (go_at_call 15; refine (same_any w4 _ _ (encode os) HV.out HU4.out hlen).mono ?_; rintro e w5 ⟨rfl, q, rfl⟩)
        go_roundw
        case rel => exact ⟨j + 1, by omega, by go_num, HJ2.out.grown (bdrew (Below.refl _ _) q)⟩
        case measure => simp [intOf]; omega
      · have HAN : Hid (answer os ((K - (j + 1) : Nat) : Int) = none) := by unfold answer; rw [if_neg (by omega)]; rfl
        rw [HAN.out] at hv
        have e0 : v = .slice none 0 0 := hv
        subst e0
        have t1 : decide ((j : Int) + 1 < (K : Int)) = true := by simp; omega
        have t2 : ((j : Int) + 1 == (K : Int)) = false := beq_eq_false_iff_ne.2 (by omega)
        clear hlast hv
        go_wp2
        go_roundw
        case rel => exact ⟨j + 1, by omega, by go_num, HJ2⟩
        case measure => simp [intOf]; omega
    · have hjK : j = K := by omega
      subst hjK
      have HC : Hid (wr.cell? ⟨w2.heap.size, 1, none⟩ = some (.int .i64 0)) := by
        have := HJ.out.left
        rw [Nat.sub_self] at this
        exact this
      go_wp2_with (go_at_call 16; refine (left_any _ _ _ HC.out).mono ?_; rintro e w6 ⟨rfl, rfl⟩)
      go_ret
      exact ⟨rfl, HB2.out.trans (HJ.out.below.mono HB2.out.size)⟩

end Go.Proofs.Qxb6606018a.done
