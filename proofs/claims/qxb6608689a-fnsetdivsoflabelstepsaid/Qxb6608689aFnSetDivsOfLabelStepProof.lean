/- The proof of 'Rows.FnSetDivsOfLabelStepSaid' (the frame: written by the kit's skeleton tool; the walk: ours). -/
import Derived.Test.Qxb6608689aRows
import Derived.Test.Qxb6608689aNodeWalks
import Derived.WalkKit
import Derived.ProofKit
import Derived.OpenShut
import Derived.ShutString
namespace Go.Proofs.Qxb6608689a.fnSetDivsOfLabelStep
open Go.ChangeShapes Go.WideShapes Go.ChangeAt Go.RowKit
open Go.ChangeMaps (open_string shut_string)
open Go.Proofs.Qxb6608689a.labelWalks
open Go.Proofs.Qxb6608689a.bytes
set_option linter.unusedVariables false      -- a walk need not use every 'w<i>' (that an integer argument fits its kind)

theorem own : ownKnob Try.prog.godebug = none := by kernel_rfl

theorem gtrans {a b c : World} (h : Grown a b) (k : Grown b c) : Grown a c := by
  obtain ⟨h1, h2, h3⟩ := h
  obtain ⟨k1, k2, k3⟩ := k
  exact ⟨World.keptBut_trans h1 k1, fun x => (k2 x).trans (h2 x), Nat.le_trans h3 k3⟩
theorem gnode {W W0 : World} {d : Int} {s : ByteArray} (h : Grown W W0) : Grown W (W0.alloc (nodeObj d s)) := h.alloc _ _

/-! ### STEP 1: THE WALK: the Go text returns true. 'Grown w w'': the world has at most new blocks (Derived/RowKit3.lean). Part the cases AHEAD of 'go_enter' where a test parts the walk; take each callee by a contract of your own. -/
theorem walk (a0 : ByteArray) (w0 : a0.size ≤ maxLen) (w : World) :
    Calls Try.prog 6 #[.string a0] w fun e w' => e = .returned (.bool true) ∧ Grown w w' := by
  by_cases hf : a0.size ≤ 1048576
  case neg =>
    have hf' : decide (a0.size ≤ 1048576) = false := by simpa using hf
    go_enter Try.func6, Try.ntmps6
    go_wp2_with (go_at_call 22; refine (fits1_any _ _ w0).mono ?_; rintro e w' ⟨rfl, rfl⟩)
    go_ret
    exact ⟨rfl, Grown.refl _⟩
  have hf' : decide (a0.size ≤ 1048576) = true := by simpa using hf
  go_enter Try.func6, Try.ntmps6
  go_wp2_with fail
  refine (fits1_any _ _ w0).mono ?_
  rintro e w' ⟨rfl, rfl⟩
  go_wp2_with fail
  refine (valid_any _ _ hf).mono ?_
  rintro e w' (⟨rfl, rfl⟩ | ⟨rfl, va, rfl⟩)
  case inl =>
    go_wp2
    go_ret
    exact ⟨rfl, Grown.refl _⟩
  have VA : Hid (Valid a0) := va
  clear va
  go_wp2_with fail
  refine (label_any _ _).mono ?_
  rintro e wa ⟨rfl, hwa⟩
  subst hwa
  go_wp2_with fail
  refine (parent_any a0 _ w0).mono ?_
  rintro e wb ⟨p, ok, rfl, PA0, hwb⟩
  have PA : Hid (ParentOf a0 p ok) := PA0
  clear PA0
  subst hwb
  cases ok with
  | false =>
    have HS : Hid (NoDots a0 → a0.size ≤ 9 → IsDiv a0 ∧ valTo a0 a0.size % 2 = 1) := fun h1 h2 => step_div VA.out PA.out h1 h2
    have hDs : a0.size ≤ 1048576 := hf
    clear PA VA
    go_wp2_with fail
    generalize hW0 : ((((w'.alloc (.cells #[.string a0] 24)).alloc (.cells #[.string a0] 24)).alloc (.cells #[.string p] 24)).alloc (.cells #[.string p] 24)) = W0
    have hG : Grown w' W0 := by rw [← hW0]; repeat (first | exact Grown.refl _ | apply Grown.drew | apply Grown.alloc)
    clear hW0
    obtain ⟨d, hdo⟩ := divOf_ex a0
    have HD : Hid (divOf a0 d) := hdo
    clear hdo
    refine (newNode_any W0).mono ?_
    rintro e wd ⟨rfl, hwd⟩
    subst hwd
    go_wp2_with fail
    refine (zzSetDivs_any a0 W0 d HD.out hDs).mono ?_
    rintro e we ⟨rfl, hwe⟩
    subst hwe
    go_wp2_with fail
    refine (nodeDiv_any a0 W0 d).mono ?_
    rintro e wf ⟨rfl, hwf⟩
    subst hwf
    go_wp2_with fail
    refine (noDot_any a0 _ hDs).mono ?_
    rintro e wg hcs
    have hcase : (e = .returned (.bool true) ∧ wg = W0.alloc (nodeObj d a0) ∧ NoDots a0 ∧ a0.size ≤ 9) ∨ (e = .returned (.bool true) ∧ wg = W0.alloc (nodeObj d a0) ∧ ¬ a0.size ≤ 9 ∧ ¬ IsDiv a0) ∨ (e = .returned (.bool false) ∧ wg = W0.alloc (nodeObj d a0) ∧ ¬ IsDiv a0) := by
      rcases hcs with ⟨h1, h2, h3⟩ | ⟨h1, h2, h3⟩
      · by_cases h9 : a0.size ≤ 9
        · exact Or.inl ⟨h1, h3, h2, h9⟩
        · exact Or.inr (Or.inl ⟨h1, h3, h9, not_div (fun h => h9 h.2)⟩)
      · exact Or.inr (Or.inr ⟨h1, h3, not_div (fun h => h2 h.1)⟩)
    clear hcs
    rcases hcase with ⟨rfl, hwg, hnd, h9⟩ | ⟨rfl, hwg, h9, hnd⟩ | ⟨rfl, hwg, hnd⟩
    · subst hwg
      obtain ⟨hdv, hodd⟩ := HS.out hnd h9
      have hd : d = valTo a0 a0.size := by
        rcases HD.out with ⟨_, h⟩ | ⟨h, _⟩
        · exact h
        · exact absurd hdv h
      have hp : 0 < valTo a0 a0.size := by
        have := val_pos hdv (a0.size - 1) (by have := hdv.pos; omega)
        rwa [Nat.sub_add_cancel hdv.pos] at this
      have q1 : (d == 0) = false := beqf (by omega)
      have q2 : (d != 0) = true := by simp; omega
      have q3 : (d % 2 == 1) = true := beqt (by omega)
      have q4 : 0 ≤ d := by omega
      clear hd hp hodd hdv hnd
      go_wp2_with fail
      refine (nodeDivs_any a0 W0 d).mono ?_
      rintro e wh ⟨rfl, hwh⟩
      subst hwh
      go_wp2_with fail
      refine (matches_any a0 _ d HD.out hDs).mono ?_
      rintro e wi ⟨rfl, hgi⟩
      go_wp2
      go_ret
      exact ⟨rfl, gtrans (gnode hG) hgi⟩
    · subst hwg
      have hd : d = 0 := by
        rcases HD.out with ⟨h, _⟩ | ⟨_, h⟩
        · exact absurd h hnd
        · exact h
      subst hd
      have q0 : decide ((a0.size : Int) ≤ 9) = false := by simp; omega
      clear hnd
      go_wp2_with fail
      refine (nodeDivs_any a0 W0 0).mono ?_
      rintro e wh ⟨rfl, hwh⟩
      subst hwh
      go_wp2_with fail
      refine (matches_any a0 _ 0 HD.out hDs).mono ?_
      rintro e wi ⟨rfl, hgi⟩
      go_wp2
      go_ret
      exact ⟨rfl, gtrans (gnode hG) hgi⟩
    · subst hwg
      have hd : d = 0 := by
        rcases HD.out with ⟨h, _⟩ | ⟨_, h⟩
        · exact absurd h hnd
        · exact h
      subst hd
      clear hnd
      go_wp2_with fail
      refine (nodeDivs_any a0 W0 0).mono ?_
      rintro e wh ⟨rfl, hwh⟩
      subst hwh
      go_wp2_with fail
      refine (matches_any a0 _ 0 HD.out hDs).mono ?_
      rintro e wi ⟨rfl, hgi⟩
      go_wp2
      go_ret
      exact ⟨rfl, gtrans (gnode hG) hgi⟩
  | true =>
    obtain ⟨t1, t2, t3⟩ := parent_tests PA.out
    have t2' : ((a0.extract 0 p.size).toList == p.toList) = true := by rw [t2]; simp
    have t3' : ((a0[p.size].toNat : Int) != 46) = false := by rw [at_get t1, t3]; rfl
    clear t2 t3
    have HS0 : Hid (NoDots (a0.extract (p.size + 1) a0.size) → (a0.extract (p.size + 1) a0.size).size ≤ 9 → IsDiv (a0.extract (p.size + 1) a0.size) ∧ valTo (a0.extract (p.size + 1) a0.size) (a0.extract (p.size + 1) a0.size).size % 2 = 1) := fun h1 h2 => step_div VA.out PA.out h1 h2
    have hDs0 : Hid ((a0.extract (p.size + 1) a0.size).size ≤ 1048576) := by
      show (a0.extract (p.size + 1) a0.size).size ≤ 1048576
      rw [size_suf]; omega
    clear PA VA
    go_wp2_with fail
    refine (text_any _ _).mono ?_
    rintro e wc ⟨rfl, hwc⟩
    subst hwc
    go_wp2_with fail
    generalize hDD : a0.extract (p.size + 1) a0.size = D at HS0 hDs0 ⊢
    have HDD : Hid (a0.extract (p.size + 1) a0.size = D) := hDD
    clear hDD
    have HS : Hid (NoDots D → D.size ≤ 9 → IsDiv D ∧ valTo D D.size % 2 = 1) := HS0
    clear HS0
    have hDs : D.size ≤ 1048576 := hDs0.out
    clear hDs0
    generalize hW0 : (((((w'.alloc (.cells #[.string a0] 24)).alloc (.cells #[.string a0] 24)).alloc (.cells #[.string p] 24)).alloc (.cells #[.string p] 24)).alloc (.cells #[.string p] 24)) = W0
    have hG : Grown w' W0 := by rw [← hW0]; repeat (first | exact Grown.refl _ | apply Grown.drew | apply Grown.alloc)
    clear hW0
    obtain ⟨d, hdo⟩ := divOf_ex D
    have HD : Hid (divOf D d) := hdo
    clear hdo
    refine (newNode_any W0).mono ?_
    rintro e wd ⟨rfl, hwd⟩
    subst hwd
    go_wp2_with fail
    refine (zzSetDivs_any D W0 d HD.out hDs).mono ?_
    rintro e we ⟨rfl, hwe⟩
    subst hwe
    go_wp2_with fail
    refine (nodeDiv_any D W0 d).mono ?_
    rintro e wf ⟨rfl, hwf⟩
    subst hwf
    go_wp2_with fail
    refine (noDot_any D _ hDs).mono ?_
    rintro e wg hcs
    have hcase : (e = .returned (.bool true) ∧ wg = W0.alloc (nodeObj d D) ∧ NoDots D ∧ D.size ≤ 9) ∨ (e = .returned (.bool true) ∧ wg = W0.alloc (nodeObj d D) ∧ ¬ D.size ≤ 9 ∧ ¬ IsDiv D) ∨ (e = .returned (.bool false) ∧ wg = W0.alloc (nodeObj d D) ∧ ¬ IsDiv D) := by
      rcases hcs with ⟨h1, h2, h3⟩ | ⟨h1, h2, h3⟩
      · by_cases h9 : D.size ≤ 9
        · exact Or.inl ⟨h1, h3, h2, h9⟩
        · exact Or.inr (Or.inl ⟨h1, h3, h9, not_div (fun h => h9 h.2)⟩)
      · exact Or.inr (Or.inr ⟨h1, h3, not_div (fun h => h2 h.1)⟩)
    clear hcs
    rcases hcase with ⟨rfl, hwg, hnd, h9⟩ | ⟨rfl, hwg, h9, hnd⟩ | ⟨rfl, hwg, hnd⟩
    · subst hwg
      obtain ⟨hdv, hodd⟩ := HS.out hnd h9
      have hd : d = valTo D D.size := by
        rcases HD.out with ⟨_, h⟩ | ⟨h, _⟩
        · exact h
        · exact absurd hdv h
      have hp : 0 < valTo D D.size := by
        have := val_pos hdv (D.size - 1) (by have := hdv.pos; omega)
        rwa [Nat.sub_add_cancel hdv.pos] at this
      have q1 : (d == 0) = false := beqf (by omega)
      have q2 : (d != 0) = true := by simp; omega
      have q3 : (d % 2 == 1) = true := beqt (by omega)
      have q4 : 0 ≤ d := by omega
      clear hd hp hodd hdv hnd
      go_wp2_with fail
      refine (nodeDivs_any D W0 d).mono ?_
      rintro e wh ⟨rfl, hwh⟩
      subst hwh
      go_wp2_with fail
      refine (matches_any D _ d HD.out hDs).mono ?_
      rintro e wi ⟨rfl, hgi⟩
      go_wp2
      go_ret
      exact ⟨rfl, gtrans (gnode hG) hgi⟩
    · subst hwg
      have hd : d = 0 := by
        rcases HD.out with ⟨h, _⟩ | ⟨_, h⟩
        · exact absurd h hnd
        · exact h
      subst hd
      have q0 : decide ((D.size : Int) ≤ 9) = false := by simp; omega
      clear hnd
      go_wp2_with fail
      refine (nodeDivs_any D W0 0).mono ?_
      rintro e wh ⟨rfl, hwh⟩
      subst hwh
      go_wp2_with fail
      refine (matches_any D _ 0 HD.out hDs).mono ?_
      rintro e wi ⟨rfl, hgi⟩
      go_wp2
      go_ret
      exact ⟨rfl, gtrans (gnode hG) hgi⟩
    · subst hwg
      have hd : d = 0 := by
        rcases HD.out with ⟨h, _⟩ | ⟨_, h⟩
        · exact absurd h hnd
        · exact h
      subst hd
      clear hnd
      go_wp2_with fail
      refine (nodeDivs_any D W0 0).mono ?_
      rintro e wh ⟨rfl, hwh⟩
      subst hwh
      go_wp2_with fail
      refine (matches_any D _ 0 HD.out hDs).mono ?_
      rintro e wi ⟨rfl, hgi⟩
      go_wp2
      go_ret
      exact ⟨rfl, gtrans (gnode hG) hgi⟩

/-! ### THE ROW's STEP: WRITTEN OUT: LEAVE IT -/
set_option maxRecDepth 100000 in
theorem lifted (os : Os) (started : os.Started) (H : Type) (enc : TypeId × Value → H) :
    ReturnsInHanded {} Try.checked os 6 .any (Rows.fnSetDivsOfLabelStepSpec.pre6 enc Try.prog Try.f6 Rows.fnSetDivsOfLabelStepRow.domain false) (Rows.fnSetDivsOfLabelStepSpec.post enc Try.prog Try.f6 false true false false) := by
  refine returnsInHanded_of_change (C := Try.checked) own started (by kernel_rfl) Try.func6
    (ChangeSpec.witness6 (enc := enc) (C := Try.checked) false ⟨#[], #[.string ByteArray.empty], []⟩ 8 (by kernel_rfl) (by kernel_rfl) (by kernel_rfl) (by kernel_rfl)) ?_
  intro W base args ds gs before hval0 hW hcnd _
  have hval : ∀ (j : Nat) t v, Try.f6.params[j]? = some t → args[j]? = some v → Value.okWide Try.prog W .any base t v := hval0
  have hW' := hW
  obtain ⟨p, q, hA0, hV, rfl, hfz, hnd⟩ := hW
  have hA : DataW.TrodAll enc Try.prog W 0 (fun _ => true) true Try.f6.params.toList args.toList ds p := hA0
  rw [Try.params6] at hA hval
  obtain ⟨v0, vs0, d0, ds0, p0, q0, hargs, rfl, rfl, h0, r0⟩ := trodAll_cons hA
  obtain ⟨rfl, rfl, rfl⟩ := trodAll_nil r0
  obtain rfl : args = #[v0] := by cases args; simp_all
  obtain ⟨rfl, rfl⟩ := trodVars_none hV
  obtain ⟨a0, rfl, rfl, rfl, w0⟩ := open_string Try.underlying9 (hval 0 9 v0 rfl rfl) h0
  clear hA0 hval0
  simp only [List.append_nil] at hW'
  refine (walk a0 w0 W).mono fun e W' ⟨he, hg⟩ => ?_
  subst he
  exact ⟨_, rfl, post_of_same (pa := []) (pv := []) hW' (fun _ _ _ => (trodAll_cons_mk (shut_bool Try.underlying4 _) trodAll_mk0)) (fun sp _ => (trodAll_cons_mk (shut_string Try.underlying9 w0) trodAll_mk0)) (fun _ _ => rfl) rfl
    (hg.frame _) hg.2.1 (ok_one (by kernel_rfl) rfl (okWide_bool_mk Try.underlying4 _))⟩

theorem over : Rows.fnSetDivsOfLabelStepRow.holds Try.pinned (OpenSpec.ofChange Rows.fnSetDivsOfLabelStepSpec) :=
  OpenClaim.holds_of_wide 6 Try.f6 rfl rfl rfl rfl rfl rfl rfl ⟨rfl, rfl, rfl, rfl, rfl⟩ rfl rfl rfl rfl rfl (by kernel_rfl) Try.func6 (by kernel_rfl)
    (of_decide_eq_true (by kernel_rfl)) (by unfold Func.isWrapper; first | (rw [if_pos (by decide +kernel)]; kernel_rfl) | (rw [if_neg (by decide +kernel)]; exact ⟨rfl, rfl⟩))
    (fun os started H enc _ => lifted os started H enc)

/-- ████ THE STATEMENT ████ -/
theorem proved : Rows.FnSetDivsOfLabelStepSaid :=
  over
end Go.Proofs.Qxb6608689a.fnSetDivsOfLabelStep
