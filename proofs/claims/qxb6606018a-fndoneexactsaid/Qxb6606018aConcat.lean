import Derived.Test.Qxb6606018aJoin
namespace Go.Proofs.Qxb6606018a.done
open Go.ChangeShapes Go.WideShapes Go.ChangeAt Go.RowKit

theorem wpList_append_jb {w : World} {ops : Array Oper} {rest : List Oper} {o : Oper} {a : Act} {Q : Exit → Act → World → Prop} (hgd : o.guard = none) (s x : Operand)
    (ho : o.op = .call { callee := .builtin .append, args := #[s, x], argTypes := #[31, 31] }) (B : Nat) (w0 : World) (v : Value) (l : List UInt8) (hs : a.eval s = v) (hout : OutIs B w0 w v l)
    (u : Value) (news : List UInt8) (hx : a.eval x = u) (hu : JB w u news) (hb : l.length + news.length ≤ 100000000)
    (h : ∀ v' w', OutIs B w0 w' v' (l ++ news) → wpList Try.prog ops Q rest (a.put o.dst v') w') : wpList Try.prog ops Q (o :: rest) a w := by
  rcases hu with ⟨rfl, rfl⟩ | ⟨ad, c, rfl, hc⟩
  · obtain ⟨i0, hi, hz0, hz1, hz2⟩ := info_parts info5
    refine wpList_append_own_none hgd s x 31 ho B 5 i0 1 Try.underlying31 hi v l.length (bcells l) hs hout.own hx ?_
    exact h v w (by rw [List.append_nil]; exact hout)
  · refine wpList_append_bytes hgd s x ho B w0 v l hs hout ad c news hx (fun j y hy => ?_) hb h
    obtain ⟨b, off, rfl, _, h'⟩ := hc (by intro e; rw [e] at hy; simp at hy)
    rw [addr_add]
    exact h' j y hy

theorem grow_any (w : World) (n : Nat) (h0 : 0 < n) (hn : n ≤ 100000000) :
    Calls Try.prog 34 #[.slice none 0 0, .int .i64 n] w fun e w' => ∃ v', e = .returned v' ∧ OutIs w.heap.size w w' v' [] := by
  obtain ⟨i0, hi, hz0, hz1, hz2⟩ := info_parts info5
  have hc := Go.Proofs.Any8.slices_Grow_grow laysGrow i0 (.int .u8 0) hi hz0 (by omega) none 0 0 n [] w (Nat.le_refl _) (by omega) (by rw [hz2]; omega) (by omega) (by simp) (fun _ => rfl) (fun a h => by cases h)
  have hc' : Calls Try.prog 34 #[.slice none 0 0, .int .i64 n] w _ := hc
  refine hc'.mono ?_
  rintro e w' ⟨rfl, rfl⟩
  refine ⟨_, rfl, ?_⟩
  show OutIs w.heap.size w (w.drew.alloc (.cells ([].toArray ++ Builtin.zeroCells (Value.int IntKind.u8 0).cells (0 + n - 0) ++ Builtin.zeroCells (Value.int IntKind.u8 0).cells (grownCap w (0 + n) 0 5 - (0 + n))) 5)) (.slice (some ⟨w.heap.size, 0, none⟩) 0 (grownCap w (0 + n) 0 5)) []
  have h1 := grownCap_ge w (0 + n) 0 5
  have h2 := grownCap_le_maxLen w (0 + n) 0 5 (by unfold maxLen; omega)
  generalize grownCap w (0 + n) 0 5 = cap at h1 h2 ⊢
  refine ⟨World.ownsRow_made w.drew _ _ (Nat.le_refl _) h2 ?_, ?_, (Below.refl _ _).drew.alloc (Nat.le_refl _) _, ?_⟩
  · simp [Builtin.zeroCells, Value.cells]; omega
  · intro e
    injection e with e1
    cases e1
  · show w.heap.size ≤ (w.heap.push _).size
    simp

set_option maxHeartbeats 1000000 in
theorem concat_any (w : World) (b3 : Nat) (v1 v2 v3 : Value) (l1 l2 l3 : List UInt8) (c1 : w.cell? ⟨b3, 0, none⟩ = some v1) (c2 : w.cell? ⟨b3, 1, none⟩ = some v2) (c3 : w.cell? ⟨b3, 2, none⟩ = some v3)
    (h1 : JB w v1 l1) (h2 : JB w v2 l2) (h3 : JB w v3 l3) (hp : 0 < l1.length) (hl : l1.length + l2.length + l3.length ≤ 10000000) :
    Calls Try.prog 31 #[.slice (some ⟨b3, 0, none⟩) 3 3] w fun e w' => ∃ v', e = .returned v' ∧ HB w.heap.size w' v' (some (l1 ++ l2 ++ l3)) ∧ Below w.heap.size w w' := by
  obtain ⟨a1, k1, rfl⟩ := h1.shape
  obtain ⟨a2, k2, rfl⟩ := h2.shape
  obtain ⟨a3, k3, rfl⟩ := h3.shape
  have H1 : Hid (JB w (.slice a1 l1.length k1) l1) := h1
  have H2 : Hid (JB w (.slice a2 l2.length k2) l2) := h2
  have H3 : Hid (JB w (.slice a3 l3.length k3) l3) := h3
  clear h1 h2 h3
  go_enter Try.func31, Try.ntmps31
  go_wp2
  refine wp_loop_rounds 4 ?_
  rw [rounds_succ]
  go_wp2
  rw [rounds_succ]
  go_wp2
  rw [rounds_succ]
  go_wp2
  rw [rounds_succ]
  go_wp2_with fail
  have en : ((l1.length : Int) + (l2.length : Int) + (l3.length : Int)) = ((l1.length + l2.length + l3.length : Nat) : Int) := by omega
  rw [en]
  clear en
  have C1 : Hid (w.cell? ⟨b3, 0, none⟩ = some (.slice a1 l1.length k1)) := c1
  have C2 : Hid (w.cell? ⟨b3, 1, none⟩ = some (.slice a2 l2.length k2)) := c2
  have C3 : Hid (w.cell? ⟨b3, 2, none⟩ = some (.slice a3 l3.length k3)) := c3
  clear c1 c2 c3
  refine (grow_any w _ (by omega) (by omega)).mono ?_
  rintro e w0 ⟨v0, rfl, ho0⟩
  have d1 := below_keeps ho0.below b3 _ _ (Nat.zero_le _) C1.out
  have O0 : Hid (OutIs w.heap.size w w0 v0 []) := ho0
  clear ho0
  go_wp2
  refine wp_loop_rounds 4 ?_
  rw [rounds_succ]
  go_wp2_with (at_builtin; refine wpList_append_jb rfl _ _ rfl w.heap.size w _ [] rfl O0.out _ l1 rfl (H1.out.keep (below_keeps O0.out.below)) (by simp; omega) ?_; intro v1 w1 ho1; have d2 := below_keeps ho1.below b3 _ _ (Nat.zero_le _) C2.out; have O1 : Hid (OutIs w.heap.size w w1 v1 l1) := ho1; clear ho1)
  rw [rounds_succ]
  go_wp2_with (at_builtin; refine wpList_append_jb rfl _ _ rfl w.heap.size w _ l1 rfl O1.out _ l2 rfl (H2.out.keep (below_keeps O1.out.below)) (by omega) ?_; intro v2 w2 ho2; have d3 := below_keeps ho2.below b3 _ _ (Nat.zero_le _) C3.out; have O2 : Hid (OutIs w.heap.size w w2 v2 (l1 ++ l2)) := ho2; clear ho2)
  rw [rounds_succ]
  go_wp2_with (at_builtin; refine wpList_append_jb rfl _ _ rfl w.heap.size w _ (l1 ++ l2) rfl O2.out _ l3 rfl (H3.out.keep (below_keeps O2.out.below)) (by simp; omega) ?_; intro v3 w3 ho3; have O3 : Hid (OutIs w.heap.size w w3 v3 (l1 ++ l2 ++ l3)) := ho3; clear ho3)
  rw [rounds_succ]
  go_wp2
  go_ret
  exact ⟨_, rfl, O3.out.hb, O3.out.below⟩

end Go.Proofs.Qxb6606018a.done
