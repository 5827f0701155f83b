import Derived.Test.Qxb6606018aConcat
import Derived.Lib.SmallJoins
namespace Go.Proofs.Qxb6606018a.done
open Go.ChangeShapes Go.WideShapes Go.ChangeAt Go.RowKit

theorem sclone_nil (w : World) : Calls Try.prog 29 #[.slice none 0 0] w fun e w' => e = .returned (.slice none 0 0) ∧ w' = w := by
  have heq : ∀ (w : World) (a : Option Addr) (n c n' c' : Nat), (binOp .eql 25 (.slice a n c) (.slice none n' c')).run Try.prog w = .ok (.bool a.isNone) w := fun w a n c n' c' => Lib.run_eql_slice_nil w _ _ a n c n' c' Try.underlying25
  go_enter Try.func29, Try.ntmps29
  go_wp2
  go_ret
  exact ⟨rfl, rfl⟩

theorem index_nil (w : World) : Calls Try.prog 33 #[.slice none 0 0, .func (.func 30) #[] #[]] w fun e w' => e = .returned (.int .i64 (-1)) ∧ w' = w := by
  go_enter Try.func33, Try.ntmps33
  go_wp2
  refine wp_loop_rounds 1 ?_
  rw [rounds_succ]
  go_wp2
  go_ret
  exact ⟨rfl, rfl⟩

theorem delete_nil (w : World) : Calls Try.prog 28 #[.slice none 0 0, .func (.func 30) #[] #[]] w fun e w' => e = .returned (.slice none 0 0) ∧ w' = w := by
  go_enter Try.func28, Try.ntmps28
  go_wp2_with (go_at_call 33; refine (index_nil _).mono ?_; rintro e w' ⟨rfl, rfl⟩)
  go_ret
  exact ⟨rfl, rfl⟩

theorem cell_at_new (W : World) (C : Array Value) (t : TypeId) (g i : Nat) (hg : g = W.heap.size) : (W.alloc (.cells C t)).cell? ⟨g, i, none⟩ = C[i]? := by
  subst hg; simp

/-- the one cell that a constant of one byte, made a byte slice, lays -/
theorem hb_lit (W : World) (g : Nat) (hg : g = W.heap.size) (n : Int) (c : UInt8) (hc : (c.toNat : Int) = n) (fr : Nat × Nat) : HB 0 (W.alloc (.cells #[.int .u8 n] 5 fr)) (.slice (some ⟨g, 0, none⟩) 1 1) (some [c]) := by
  subst hg
  refine ⟨_, _, rfl, fun _ => ⟨_, 0, rfl, Nat.zero_le _, fun i x hx => ?_⟩⟩
  match i, hx with
  | 0, hx =>
    obtain rfl : c = x := by simpa using hx
    rw [World.cell?_alloc_mark, ← hc]
    rfl
  | i + 1, hx => simp at hx

theorem encode_any (w : World) (A : Option Addr) (cap : Nat) (os : List (Option (List UInt8))) (hA : A = none → cap = 0) (hr : HR 0 w A os) (hl : 24 * os.length + tlen os ≤ 1048576) :
    Calls Try.prog 25 #[.slice A os.length cap] w fun e w' => ∃ v', e = .returned v' ∧ HB w.heap.size w' v' (encode os) ∧ Below w.heap.size w w' := by
  cases A with
  | none =>
    have h0 : os = [] := by
      apply Classical.byContradiction
      intro hne
      obtain ⟨_, _, e, _⟩ := hr hne
      cases e
    subst h0
    obtain rfl := hA rfl
    clear hr hl hA
    go_enter Try.func25, Try.ntmps25
    go_wp2_with (first
      | (go_at_call 29; refine (sclone_nil _).mono ?_; rintro e w' ⟨rfl, rfl⟩)
      | (go_at_call 28; refine (delete_nil _).mono ?_; rintro e w' ⟨rfl, rfl⟩))
    go_ret
    exact ⟨_, rfl, rfl, Below.refl _ _⟩
  | some a =>
    have HR0 : Hid (HR 0 w (some a) os) := hr
    have HL : Hid (24 * os.length + tlen os ≤ 1048576) := hl
    have hn : os.length ≤ 1048576 := by omega
    clear hr hl hA
    go_enter Try.func25, Try.ntmps25
    go_wp2_with fail
    refine (sclone_any w a cap os HR0.out hn).mono ?_
    rintro e w1 ⟨g, c, xs, rfl, ho1, hg1, hx1, hb1⟩
    have hxl : xs.length = os.length := hx1.length
    have O1 : Hid (w1.ownsRow w.heap.size 31 1 (.slice (some ⟨g, 0, none⟩) xs.length c) xs.length (xs.map encS)) := by rw [hxl]; exact ho1
    rw [← hxl]
    have HX : Hid (Held w xs os) := hx1
    have B1 : Hid (Below w.heap.size w w1) := hb1
    have hxn : xs.length ≤ 1048576 := by omega
    have HXL : Hid (xs.length = os.length) := hxl
    clear ho1 hx1 hb1 hxl
    go_wp2_with fail
    refine (delete_any w1 w.heap.size g c xs O1.out hxn).mono ?_
    rintro e w2 ⟨rfl, ho2, hb2⟩
    have hb2' := hb2 w.heap.size w B1.out hg1
    have hy := held_filter HX.out
    generalize (xs.filter fun x => !x.1.isNone) = ys at hy ho2 ⊢
    have hyl : ys.length = (parts os).length := by have := hy.length; simpa using this
    have HPL : Hid ((parts os).length ≤ 1048576) := by have := parts_len' os; show (parts os).length ≤ 1048576; omega
    rw [hyl] at ho2 ⊢
    have O2 : Hid (w2.ownsRow w.heap.size 31 1 (.slice (some ⟨g, 0, none⟩) (parts os).length c) (parts os).length (ys.map encS)) := ho2
    have B2 : Hid (Below w.heap.size w w2) := hb2'
    have HY : Hid (Held w2 ys ((parts os).map some)) := hy.keep (below_keeps hb2')
    clear ho2 hb2 hb2' hy hyl O1 HX B1 HXL hxn
    by_cases h0 : parts os = []
    · have HE : Hid (encode os = none) := by unfold encode; rw [if_pos h0]; rfl
      have h0' : (((parts os).length : Int) == 0) = true := by rw [h0]; rfl
      clear h0
      go_wp2
      go_ret
      exact ⟨_, rfl, by rw [HE.out]; rfl, B2.out⟩
    have hpos : 1 ≤ (parts os).length := by
      apply Nat.pos_of_ne_zero
      intro e
      exact h0 (List.eq_nil_of_length_eq_zero e)
    have h0' : (((parts os).length : Int) == 0) = false := beq_eq_false_iff_ne.2 (by omega)
    have HE : Hid (encode os = some ([91] ++ Lib.join (parts os) [44] ++ [93])) := by unfold encode; rw [if_neg h0]; rfl
    clear h0
    have kc1 : (convert 31 31 (.slice (some ⟨w2.heap.size, 0, none⟩) 1 1)).run Try.prog (w2.alloc (.cells #[.int .u8 91] 5)) = .ok (.slice (some ⟨w2.heap.size, 0, none⟩) 1 1) (w2.alloc (.cells #[.int .u8 91] 5 (1, 2))) :=
      Lib.run_convert_bytes_const w2 31 5 #[.int .u8 91] 1 1 Try.underlying31 Try.underlying5
    have kc2 : (convert 31 31 (.slice (some ⟨w2.heap.size + 1, 0, none⟩) 1 1)).run Try.prog ((w2.alloc (.cells #[.int .u8 91] 5 (1, 2))).alloc (.cells #[.int .u8 44] 5)) = .ok (.slice (some ⟨w2.heap.size + 1, 0, none⟩) 1 1) ((w2.alloc (.cells #[.int .u8 91] 5 (1, 2))).alloc (.cells #[.int .u8 44] 5 (1, 2))) :=
      Go.Joins.run_convert_bytes_const_at (w2.alloc (.cells #[.int .u8 91] 5 (1, 2))) 31 5 #[.int .u8 44] 1 1 (w2.heap.size + 1) (by simp) Try.underlying31 Try.underlying5
    go_wp2_with fail
    clear kc1 kc2
    have hS : HB 0 ((w2.alloc (.cells #[.int .u8 91] 5 (1, 2))).alloc (.cells #[.int .u8 44] 5 (1, 2))) (.slice (some ⟨w2.heap.size + 1, 0, none⟩) 1 1) (some [44]) := hb_lit _ _ (by simp) 44 44 rfl _
    have hO : HB 0 ((w2.alloc (.cells #[.int .u8 91] 5 (1, 2))).alloc (.cells #[.int .u8 44] 5 (1, 2))) (.slice (some ⟨w2.heap.size, 0, none⟩) 1 1) (some [91]) := (hb_lit w2 _ rfl 91 91 rfl _).keep (below_keeps ((Below.refl _ _).alloc (Nat.le_refl _) _))
    have hW : Below w2.heap.size w2 ((w2.alloc (.cells #[.int .u8 91] 5 (1, 2))).alloc (.cells #[.int .u8 44] 5 (1, 2))) := ((Below.refl _ _).alloc (Nat.le_refl _) _).alloc (by simp) _
    have hO2 := (O2.out.alloc (.cells #[.int .u8 91] 5 (1, 2))).alloc (.cells #[.int .u8 44] 5 (1, 2))
    generalize ((w2.alloc (.cells #[.int .u8 91] 5 (1, 2))).alloc (.cells #[.int .u8 44] 5 (1, 2))) = W2 at hS hO hW hO2 ⊢
    have HB2 : Hid (Below w.heap.size w W2) := B2.out.trans (hW.mono B2.out.size)
    have HO91 : Hid (HB 0 W2 (.slice (some ⟨w2.heap.size, 0, none⟩) 1 1) (some [91])) := hO
    have hlens : Lib.lens (parts os) + (parts os).length ≤ 5000000 := by
      rw [lens_parts]
      have := HL.out
      have := HPL.out
      omega
    refine (join_any W2 w.heap.size g c ys (parts os) _ hO2 (HY.out.keep (below_keeps hW)) hS hpos (by omega)).mono ?_
    rintro e w3 ⟨v', rfl, hj, hb3⟩
    have hjl : (Lib.join (parts os) [44]).length ≤ 9000000 := by have := join_len (parts os); omega
    generalize hJ : Lib.join (parts os) [44] = J at hj hjl
    have HJ : Hid (Lib.join (parts os) [44] = J) := hJ
    obtain ⟨aj, cj, rfl⟩ := hj.shape
    have H91 : Hid (HB 0 w3 (.slice (some ⟨w2.heap.size, 0, none⟩) 1 1) (some [91])) := HO91.out.keep (below_keeps hb3)
    have HB3 : Hid (Below w.heap.size w w3) := HB2.out.trans (hb3.mono HB2.out.size)
    have HJB : Hid (JB w3 (.slice aj J.length cj) J) := hj
    clear hJ hj hb3 hS hO hW hO2 HO91 HB2 hlens O2 B2 HY
    have kc3 : (convert 31 31 (.slice (some ⟨w3.heap.size, 0, none⟩) 1 1)).run Try.prog (w3.alloc (.cells #[.int .u8 93] 5)) = .ok (.slice (some ⟨w3.heap.size, 0, none⟩) 1 1) (w3.alloc (.cells #[.int .u8 93] 5 (1, 2))) :=
      Lib.run_convert_bytes_const w3 31 5 #[.int .u8 93] 1 1 Try.underlying31 Try.underlying5
    go_wp2_with fail
    clear kc3
    have q93 : HB 0 ((w3.alloc (.cells #[.int .u8 93] 5 (1, 2))).alloc (.cells #[.slice (some ⟨w2.heap.size, 0, none⟩) 1 1, .slice aj J.length cj, .slice (some ⟨w3.heap.size, 0, none⟩) 1 1] 31)) (.slice (some ⟨w3.heap.size, 0, none⟩) 1 1) (some [93]) := (hb_lit w3 _ rfl 93 93 rfl _).keep (below_keeps ((Below.refl _ _).alloc (Nat.le_refl _) _))
    have hW : Below w3.heap.size w3 ((w3.alloc (.cells #[.int .u8 93] 5 (1, 2))).alloc (.cells #[.slice (some ⟨w2.heap.size, 0, none⟩) 1 1, .slice aj J.length cj, .slice (some ⟨w3.heap.size, 0, none⟩) 1 1] 31)) := ((Below.refl _ _).alloc (Nat.le_refl _) _).alloc (by simp) _
    have z1 := cell_at_new (w3.alloc (.cells #[.int .u8 93] 5 (1, 2))) #[.slice (some ⟨w2.heap.size, 0, none⟩) 1 1, .slice aj J.length cj, .slice (some ⟨w3.heap.size, 0, none⟩) 1 1] 31 (w3.heap.size + 1) 0 (by simp)
    have z2 := cell_at_new (w3.alloc (.cells #[.int .u8 93] 5 (1, 2))) #[.slice (some ⟨w2.heap.size, 0, none⟩) 1 1, .slice aj J.length cj, .slice (some ⟨w3.heap.size, 0, none⟩) 1 1] 31 (w3.heap.size + 1) 1 (by simp)
    have z3 := cell_at_new (w3.alloc (.cells #[.int .u8 93] 5 (1, 2))) #[.slice (some ⟨w2.heap.size, 0, none⟩) 1 1, .slice aj J.length cj, .slice (some ⟨w3.heap.size, 0, none⟩) 1 1] 31 (w3.heap.size + 1) 2 (by simp)
    generalize ((w3.alloc (.cells #[.int .u8 93] 5 (1, 2))).alloc (.cells #[.slice (some ⟨w2.heap.size, 0, none⟩) 1 1, .slice aj J.length cj, .slice (some ⟨w3.heap.size, 0, none⟩) 1 1] 31)) = W4 at q93 hW z1 z2 z3 ⊢
    have HB4 : Below w.heap.size w W4 := HB3.out.trans (hW.mono HB3.out.size)
    refine (concat_any W4 (w3.heap.size + 1) _ _ _ [91] J [93] z1 z2 z3 (Or.inr (H91.out.keep (below_keeps hW))) (HJB.out.keep (below_keeps hW)) (Or.inr q93) (by decide) (by simp; omega)).mono ?_
    rintro e w5 ⟨v5, rfl, h5, hb5⟩
    have HF : Hid (HB w.heap.size w5 v5 (encode os)) := by
      rw [HE.out, HJ.out]
      exact h5.lower HB4.size
    have HB5 : Hid (Below w.heap.size w w5) := HB4.trans (hb5.mono HB4.size)
    clear z1 z2 z3 q93 hW HB4 h5 hb5
    go_wp2
    go_ret
    exact ⟨_, rfl, HF.out, HB5.out⟩

end Go.Proofs.Qxb6606018a.done
