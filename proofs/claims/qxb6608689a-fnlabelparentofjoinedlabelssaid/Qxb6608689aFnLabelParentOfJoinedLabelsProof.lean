/- The proof of 'Rows.FnLabelParentOfJoinedLabelsSaid' (the frame: written by the kit's skeleton tool; the walk: ours). -/
import Derived.Test.Qxb6608689aRows
import Derived.Test.Qxb6608689aJoined
import Derived.WalkKit
import Derived.ProofKit
import Derived.OpenShut
import Derived.ShutString
namespace Go.Proofs.Qxb6608689a.fnLabelParentOfJoinedLabels
open Go.ChangeShapes Go.WideShapes Go.ChangeAt Go.RowKit
open Go.ChangeMaps (open_string shut_string)
open Go.Proofs.Qxb6608689a.labelWalks
open Go.Proofs.Qxb6608689a.bytes
set_option linter.unusedVariables false      -- a walk need not use every 'w<i>' (that an integer argument fits its kind)

theorem own : ownKnob Try.prog.godebug = none := by kernel_rfl

/-! ### STEP 1: THE WALK: the Go text returns true. 'Grown w w'': the world has at most new blocks (Derived/RowKit3.lean). Part the cases AHEAD of 'go_enter' where a test parts the walk; take each callee by a contract of your own. -/
theorem walk (a0 : ByteArray) (a1 : ByteArray) (w0 : a0.size ≤ maxLen) (w1 : a1.size ≤ maxLen) (w : World) :
    Calls Try.prog 4 #[.string a0, .string a1] w fun e w' => e = .returned (.bool true) ∧ Grown w w' := by
  by_cases hf : a0.size + a1.size ≤ 1048576
  · have hf' : decide (a0.size + a1.size ≤ 1048576) = true := by simpa using hf
    go_enter Try.func4, Try.ntmps4
    go_wp2_with fail
    refine (fits2_any _ _ _ w0 w1).mono ?_
    rintro e w' ⟨rfl, rfl⟩
    by_cases hs0 : a0.size ≤ 524288
    case neg =>
      go_wp2
      go_ret
      exact ⟨rfl, Grown.refl _⟩
    by_cases hs1 : a1.size ≤ 524288
    case neg =>
      go_wp2
      go_ret
      exact ⟨rfl, Grown.refl _⟩
    go_wp2_with fail
    refine (valid_any _ _ (by omega)).mono ?_
    rintro e w' (⟨rfl, rfl⟩ | ⟨rfl, va, rfl⟩)
    case inl =>
      go_wp2
      go_ret
      exact ⟨rfl, Grown.refl _⟩
    have VA : Hid (Valid a0) := va
    clear va
    go_wp2_with fail
    refine (valid_any _ _ (by omega)).mono ?_
    rintro e w' (⟨rfl, rfl⟩ | ⟨rfl, vb, rfl⟩)
    case inl =>
      go_wp2
      go_ret
      exact ⟨rfl, Grown.refl _⟩
    have VB : Hid (Valid a1) := vb
    clear vb
    go_wp2_with fail
    have hJb : (a0 ++ ⟨#[46]⟩ ++ a1 : ByteArray).size ≤ 1048577 := by
      have := size_join a0 a1
      unfold joinD at this
      omega
    generalize hJ : (a0 ++ ⟨#[46]⟩ ++ a1 : ByteArray) = J at hJb ⊢
    have HJ : Hid (joinD a0 a1 = J) := hJ
    clear hJ
    refine (label_any _ _).mono ?_
    rintro e wa ⟨rfl, hwa⟩
    subst hwa
    go_wp2_with fail
    refine (parent_any J _ (by unfold maxLen; omega)).mono ?_
    rintro e wb ⟨pj, okj, rfl, PJ0, hwb⟩
    have PJ : Hid (ParentOf J pj okj) := PJ0
    clear PJ0
    subst hwb
    go_wp2_with fail
    refine (label_any _ _).mono ?_
    rintro e wc ⟨rfl, hwc⟩
    subst hwc
    go_wp2_with fail
    refine (parent_any a1 _ (by unfold maxLen; omega)).mono ?_
    rintro e wd ⟨pb, okb, rfl, PB0, hwd⟩
    subst hwd
    obtain ⟨e1, hlt, hin, hcase⟩ := joined VA.out VB.out (by rw [HJ.out]; exact PJ.out) PB0
    subst e1
    rw [HJ.out] at hlt
    clear PJ PB0
    have HI : Hid (okb = true ↔ OddInner a1) := hin
    clear hin
    have HC : Hid ((okb = true ∧ pj = joinD a0 pb ∧ 0 < pb.size ∧ pb.size < a1.size ∧ a1.extract 0 pb.size = pb ∧ at' a1 pb.size = 46 ∧ oddD (at' pb (pb.size - 1)) = true) ∨ (okb = false ∧ pj = a0)) := hcase
    clear hcase
    go_wp2_with fail
    refine (text_any _ _).mono ?_
    rintro e we ⟨rfl, hwe⟩
    subst hwe
    go_wp2_with fail
    refine (text_any _ _).mono ?_
    rintro e wf ⟨rfl, hwf⟩
    subst hwf
    go_wp2_with fail
    refine (inner_any _ _ w1).mono ?_
    rintro e wg ⟨bi, rfl, hbi, hwg⟩
    subst hwg
    have hbo : bi = okb := by rw [Bool.eq_iff_iff, hbi, HI.out]
    subst hbo
    clear hbi HI VA VB
    rcases HC.out with ⟨h1, h2, h3, h4, h5, h6, h7⟩ | ⟨h1, h2⟩
    · subst h1
      clear HC
      have t1 : (pj.toList == (a0 ++ ⟨#[46]⟩ ++ pb : ByteArray).toList) = true := by
        rw [h2]; unfold joinD; simp
      have t2 : ((a1.extract 0 pb.size).toList == pb.toList) = true := by rw [h5]; simp
      have t3 : ((a1[pb.size].toNat : Int) == 46) = true := beqt (by rw [at_get h4, h6]; rfl)
      have t4 : oddD ((pb[pb.size - 1]'(by omega)).toNat : Int) = true := by rw [at_get (by omega)]; exact h7
      clear h2 h5 h6 h7
      go_wp2_with (go_at_call 15; refine (odd_any _ _).mono ?_; rintro e w' ⟨rfl, rfl⟩)
      go_ret
      exact ⟨rfl, by repeat (first | exact Grown.refl _ | apply Grown.drew | apply Grown.alloc)⟩
    · subst h1
      clear HC
      have t1 : (pj.toList == a0.toList) = true := by rw [h2]; simp
      clear h2
      go_wp2
      go_ret
      exact ⟨rfl, by repeat (first | exact Grown.refl _ | apply Grown.drew | apply Grown.alloc)⟩
  · have hf' : decide (a0.size + a1.size ≤ 1048576) = false := by simpa using hf
    go_enter Try.func4, Try.ntmps4
    go_wp2_with (go_at_call 13; refine (fits2_any _ _ _ w0 w1).mono ?_; rintro e w' ⟨rfl, rfl⟩)
    go_ret
    exact ⟨rfl, by repeat (first | exact Grown.refl _ | apply Grown.drew | apply Grown.alloc)⟩

/-! ### THE ROW's STEP: WRITTEN OUT: LEAVE IT -/
set_option maxRecDepth 100000 in
theorem lifted (os : Os) (started : os.Started) (H : Type) (enc : TypeId × Value → H) :
    ReturnsInHanded {} Try.checked os 4 .any (Rows.fnLabelParentOfJoinedLabelsSpec.pre6 enc Try.prog Try.f4 Rows.fnLabelParentOfJoinedLabelsRow.domain false) (Rows.fnLabelParentOfJoinedLabelsSpec.post enc Try.prog Try.f4 false true false false) := by
  refine returnsInHanded_of_change (C := Try.checked) own started (by kernel_rfl) Try.func4
    (ChangeSpec.witness6 (enc := enc) (C := Try.checked) false ⟨#[], #[.string ByteArray.empty, .string ByteArray.empty], []⟩ 8 (by kernel_rfl) (by kernel_rfl) (by kernel_rfl) (by kernel_rfl)) ?_
  intro W base args ds gs before hval0 hW hcnd _
  have hval : ∀ (j : Nat) t v, Try.f4.params[j]? = some t → args[j]? = some v → Value.okWide Try.prog W .any base t v := hval0
  have hW' := hW
  obtain ⟨p, q, hA0, hV, rfl, hfz, hnd⟩ := hW
  have hA : DataW.TrodAll enc Try.prog W 0 (fun _ => true) true Try.f4.params.toList args.toList ds p := hA0
  rw [Try.params4] at hA hval
  obtain ⟨v0, vs0, d0, ds0, p0, q0, hargs, rfl, rfl, h0, r0⟩ := trodAll_cons hA
  obtain ⟨v1, vs1, d1, ds1, p1, q1, rfl, rfl, rfl, h1, r1⟩ := trodAll_cons r0
  obtain ⟨rfl, rfl, rfl⟩ := trodAll_nil r1
  obtain rfl : args = #[v0, v1] := by cases args; simp_all
  obtain ⟨rfl, rfl⟩ := trodVars_none hV
  obtain ⟨a0, rfl, rfl, rfl, w0⟩ := open_string Try.underlying9 (hval 0 9 v0 rfl rfl) h0
  obtain ⟨a1, rfl, rfl, rfl, w1⟩ := open_string Try.underlying9 (hval 1 9 v1 rfl rfl) h1
  clear hA0 hval0
  simp only [List.append_nil] at hW'
  refine (walk a0 a1 w0 w1 W).mono fun e W' ⟨he, hg⟩ => ?_
  subst he
  exact ⟨_, rfl, post_of_same (pa := []) (pv := []) hW' (fun _ _ _ => (trodAll_cons_mk (shut_bool Try.underlying4 _) trodAll_mk0)) (fun sp _ => (trodAll_cons_mk (shut_string Try.underlying9 w0) (trodAll_cons_mk (shut_string Try.underlying9 w1) trodAll_mk0))) (fun _ _ => rfl) rfl
    (hg.frame _) hg.2.1 (ok_one (by kernel_rfl) rfl (okWide_bool_mk Try.underlying4 _))⟩

theorem over : Rows.fnLabelParentOfJoinedLabelsRow.holds Try.pinned (OpenSpec.ofChange Rows.fnLabelParentOfJoinedLabelsSpec) :=
  OpenClaim.holds_of_wide 4 Try.f4 rfl rfl rfl rfl rfl rfl rfl ⟨rfl, rfl, rfl, rfl, rfl⟩ rfl rfl rfl rfl rfl (by kernel_rfl) Try.func4 (by kernel_rfl)
    (of_decide_eq_true (by kernel_rfl)) (by unfold Func.isWrapper; first | (rw [if_pos (by decide +kernel)]; kernel_rfl) | (rw [if_neg (by decide +kernel)]; exact ⟨rfl, rfl⟩))
    (fun os started H enc _ => lifted os started H enc)

/-- ████ THE STATEMENT ████ -/
theorem proved : Rows.FnLabelParentOfJoinedLabelsSaid :=
  over
end Go.Proofs.Qxb6608689a.fnLabelParentOfJoinedLabels
