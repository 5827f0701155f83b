import Derived.Test.Qxb6606018aRows
import Derived.Test.Qxb6606018aOpen
import Derived.Test.Qxb6606018aLastWalk
import Derived.WalkKit
import Derived.ProofKit
import Derived.OpenShut
/- The proof of 'Rows.FnDoneLastOfKSaid': the frame as the kit's worked row over a slice and an int has it, turned to this law; the walk: ours. -/
namespace Go.Proofs.Qxb6606018a.fnDoneLastOfK
open Go.ChangeShapes Go.WideShapes Go.ChangeAt Go.RowKit

theorem own : ownKnob Try.prog.godebug = none := by kernel_rfl
theorem laidOut : laidOutB Try.prog = true := by kernel_rfl
theorem cells31 : Try.prog.cellsOf 31 = 1 := by kernel_rfl
theorem cells5 : Try.prog.cellsOf 5 = 1 := by kernel_rfl

set_option maxHeartbeats 800000 in
set_option maxRecDepth 100000 in
theorem lifted (os : Os) (started : os.Started) (H : Type) (enc : TypeId × Value → H) :
    ReturnsInHanded {} Try.checked os 6 .any (Rows.fnDoneLastOfKSpec.pre6 enc Try.prog Try.f6 Rows.fnDoneLastOfKRow.domain false) (Rows.fnDoneLastOfKSpec.post enc Try.prog Try.f6 false true false false) := by
  refine returnsInHanded_of_change (C := Try.checked) own started (by kernel_rfl) Try.func6
    (ChangeSpec.witness6 (enc := enc) (C := Try.checked) false ⟨#[], #[.slice none 0 0, .int .i64 0], []⟩ 8 (by kernel_rfl) (by kernel_rfl) (by kernel_rfl) (by kernel_rfl)) ?_
  intro W base args ds gs before hval0 hW _ _
  have hval : ∀ (j : Nat) t v, Try.f6.params[j]? = some t → args[j]? = some v → Value.okWide Try.prog W .any base t v := hval0
  have hW' := hW
  obtain ⟨p, q, hA0, hV, rfl, _, _⟩ := hW
  have hA : DataW.TrodAll enc Try.prog W 0 (fun _ => true) true Try.f6.params.toList args.toList ds p := hA0
  rw [Try.params6] at hA hval
  obtain ⟨v0, v1, d0, d1, p0, p1, rfl, rfl, rfl, h0, h1⟩ := trodAll_two hA
  obtain ⟨rfl, rfl⟩ := trodVars_none hV
  have h1k := h1
  obtain ⟨x, rfl, rfl, rfl, wx⟩ := open_int Try.underlying3 (hval 1 3 v1 rfl rfl) h1
  obtain ⟨a0, len, cap, rfl⟩ := okWide_slice Try.underlying25 (hval 0 25 v0 rfl rfl)
  have h0k := h0
  obtain ⟨fuel, hf⟩ := h0
  clear hA0 hval0
  simp only [List.append_nil] at hW'
  have hlt : ∀ y ∈ p0, y.block < W.heap.size := fun y hy => by simpa using hW'.lt y (by simp [hy])
  -- the arguments, read again in whatever world holds all that lay
  have harg0 : ∀ W' : World, Below W.heap.size W W' → DataW.Trod enc Try.prog W' 0 (fun b => decide (b < W.heap.size)) true 25 (.slice a0 len cap) d0 p0 :=
    fun W' hn => Below.trod laidOut (by kernel_rfl) (of_decide_eq_true (by kernel_rfl)) h0k hn hlt
  have harg1 : ∀ W' : World, Below W.heap.size W W' → DataW.Trod enc Try.prog W' 0 (fun b => decide (b < W.heap.size)) true 3 (.int .i64 x) (.lit (.int .i64 x)) [] :=
    fun W' hn => Below.trod laidOut (by kernel_rfl) (of_decide_eq_true (by kernel_rfl)) h1k hn (fun y hy => by cases hy)
  -- THE last_walk, whatever the argument's opening says
  have walk : ∃ bs : List (Option (List UInt8)), bs.length = len ∧ bs.length ≤ 9223372036854775807 ∧ done.HR 0 W a0 bs := by
    rcases Go.Deep.open_int_rows Try.underlying25 Try.underlying31 Try.underlying5 cells31 cells5 hf with ⟨hcs, _⟩ | ⟨a, len', cap', A, L, C, Z, hcs, _, hl, hmx, _, hrows⟩
    · simp [Value.cells] at hcs
      obtain ⟨rfl, rfl, rfl⟩ := hcs
      exact ⟨[], rfl, by simp, fun h => absurd rfl h⟩
    · simp [Value.cells] at hcs
      obtain ⟨rfl, rfl, rfl⟩ := hcs
      refine ⟨_, by rw [List.length_map, List.length_range], by rw [List.length_map, List.length_range]; unfold maxLen at hmx; omega, done.hr_of_open hl hrows⟩
  obtain ⟨bs, rfl, hm, hr⟩ := walk
  refine (done.last_walk W a0 cap bs x hr hm).mono fun e W' ⟨he, hn⟩ => ?_
  subst he
  exact ⟨_, rfl, _, _, _, [], _, [], hW', trodAll_mk1 (shut_bool Try.underlying4 _), trodAll_mk2 (harg0 _ hn) (harg1 _ hn), rfl, hn.frame _, fun h => by cases h⟩

theorem over : Rows.fnDoneLastOfKRow.holds Try.pinned (OpenSpec.ofChange Rows.fnDoneLastOfKSpec) :=
  OpenClaim.holds_of_wide 6 Try.f6 rfl rfl rfl rfl rfl rfl rfl ⟨rfl, rfl, rfl, rfl, rfl⟩ rfl rfl rfl rfl rfl (by kernel_rfl) Try.func6 (by kernel_rfl)
    (of_decide_eq_true (by kernel_rfl)) (by unfold Func.isWrapper; first | (rw [if_pos (by decide +kernel)]; kernel_rfl) | (rw [if_neg (by decide +kernel)]; exact ⟨rfl, rfl⟩))
    (fun os started H enc _ => lifted os started H enc)

/-- THE STATEMENT -/
theorem proved : Rows.FnDoneLastOfKSaid :=
  over
end Go.Proofs.Qxb6606018a.fnDoneLastOfK
