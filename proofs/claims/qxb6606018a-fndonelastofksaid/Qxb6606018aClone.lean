import Derived.Test.Qxb6606018aRows
import Derived.Test.Qxb6606018aData
import Derived.OpenShut
import Derived.WalkSpells
import Derived.Laws.CopyOwn
import Derived.Deep.OwnRows
namespace Go.Proofs.Qxb6606018a.done
open Go.ChangeShapes Go.WideShapes Go.ChangeAt Go.RowKit

theorem info5 : (Try.prog.info? 5).map (fun i => (i.zero, i.size, i.bytes)) = some (some (.int .u8 0), 1, 1) := by kernel_rfl
theorem info31 : (Try.prog.info? 31).map (fun i => (i.zero, i.size, i.bytes)) = some (some (.slice none 0 0), 1, 24) := by kernel_rfl
theorem size5 : (Try.prog.info? 5).map (·.size) = some 1 := by kernel_rfl
theorem size31 : (Try.prog.info? 31).map (·.size) = some 1 := by kernel_rfl

/-- the bytes as cells -/
def bcells (l : List UInt8) : List Value := l.map fun x => .int .u8 (x.toNat : Int)
theorem bcells_length (l : List UInt8) : (bcells l).length = l.length := by simp [bcells]
theorem bcells_get {l : List UInt8} {i : Nat} {v : Value} (h : (bcells l)[i]? = some v) : ∃ x, l[i]? = some x ∧ v = .int .u8 (x.toNat : Int) := by
  unfold bcells at h
  rw [List.getElem?_map] at h
  cases hx : l[i]? with
  | none => rw [hx] at h; cases h
  | some x => rw [hx] at h; exact ⟨x, rfl, (Option.some.inj h).symm⟩
theorem bcells_one (l : List UInt8) : ∀ v ∈ bcells l, v.oneCell' = true := by
  intro v hv
  obtain ⟨x, _, rfl⟩ := List.mem_map.1 hv
  rfl

theorem addr_add (b o i : Nat) : (⟨b, o, none⟩ : Addr).add i = ⟨b, o + i, none⟩ := by unfold Addr.add; split <;> simp_all
theorem cell_of_blk {w : World} {g : Nat} {C : Array Value} {t : TypeId} {fr : Nat × Nat} (h : w.heap[g]? = some (.cells C t fr)) (i : Nat) : w.cell? ⟨g, i, none⟩ = C[i]? := by
  simp [World.cell?, h]
theorem made_len (z : Array Value) (n : Nat) : (madeCells z n).toList.length = n := by rw [Array.length_toList]; exact size_madeCells _ _
theorem splice_all {L cs : List Value} (h : cs.length = L.length) : splice L 0 cs = cs := by
  unfold splice
  rw [List.take_zero, List.nil_append, Nat.zero_add, h, List.drop_length, List.append_nil]

theorem cloneBytes_any (w : World) (v : Value) (o : Option (List UInt8)) (h : HB 0 w v o) (hl : blen o ≤ 1048576) :
    Calls Try.prog 19 #[v] w fun e w' => ∃ v', e = .returned v' ∧ HB w.heap.size w' v' o ∧ Below w.heap.size w w' := by
  have heq : ∀ (w : World) (a : Option Addr) (n c n' c' : Nat), (binOp .eql 31 (.slice a n c) (.slice none n' c')).run Try.prog w = .ok (.bool a.isNone) w := fun w a n c n' c' => Lib.run_eql_slice_nil w _ _ a n c n' c' Try.underlying31
  cases o with
  | none =>
    cases h
    go_enter Try.func19, Try.ntmps19
    go_wp2
    go_ret
    exact ⟨_, rfl, rfl, Below.refl _ _⟩
  | some l =>
    obtain ⟨a, cap, rfl, hc⟩ := h
    have hl' : l.length ≤ 1048576 := hl
    have hmk := run_make_row' (P := Try.prog) 31 5 (.int .u8 0) 1 Try.underlying31 info5 rfl .i64 .i64 l.length (by omega) (by omega)
    have HC : Hid (l ≠ [] → ∃ b off, a = ⟨b, off, none⟩ ∧ 0 ≤ b ∧ ∀ i x, l[i]? = some x → w.cell? ⟨b, off + i, none⟩ = some (.int .u8 (x.toNat : Int))) := hc
    clear hc hl
    go_enter Try.func19, Try.ntmps19
    have hblk : (w.alloc (.cells (madeCells #[Value.int IntKind.u8 0] l.length) 5)).heap[w.heap.size]? = some (.cells (madeCells #[Value.int IntKind.u8 0] l.length).toList.toArray 5 (0, 0)) := by
      rw [Array.toArray_toList]; exact heap_alloc_new _ _
    have hbel : Below w.heap.size w (w.alloc (.cells (madeCells #[Value.int IntKind.u8 0] l.length) 5)) := (Below.refl _ _).alloc (Nat.le_refl _) _
    have HB1 : Hid ((w.alloc (.cells (madeCells #[Value.int IntKind.u8 0] l.length) 5)).heap[w.heap.size]? = some (.cells (madeCells #[Value.int IntKind.u8 0] l.length).toList.toArray 5 (0, 0))) := hblk
    have HB2 : Hid (Below w.heap.size w (w.alloc (.cells (madeCells #[Value.int IntKind.u8 0] l.length) 5))) := hbel
    clear hblk hbel
    have HP : Hid (0 < (bcells l).length → (some ⟨w.heap.size, 0, none⟩ : Option Addr) = some ⟨w.heap.size, 0, none⟩ ∧ ∃ ad, (some a : Option Addr) = some ad ∧ ∀ j v, (bcells l)[j]? = some v → (w.alloc (.cells (madeCells #[Value.int IntKind.u8 0] l.length) 5)).cell? (ad.add j) = some v) := by
      intro h0
      rw [bcells_length] at h0
      obtain ⟨b, off, rfl, _, hc⟩ := HC.out (by intro e; rw [e] at h0; simp at h0)
      refine ⟨rfl, _, rfl, fun j v hj => ?_⟩
      obtain ⟨x, hx, rfl⟩ := bcells_get hj
      have h1 := hc j x hx
      rw [addr_add]
      exact Keeps.of_below (lo := 0) HB2.out b _ _ (Nat.zero_le _) h1
    have HN : Hid ((bcells l).length = Nat.min l.length l.length) := by
      show (bcells l).length = Nat.min l.length l.length
      rw [bcells_length]; exact (Nat.min_self _).symm
    have HF : Hid (0 + (bcells l).length ≤ (madeCells #[Value.int IntKind.u8 0] l.length).toList.length) := by
      show 0 + (bcells l).length ≤ (madeCells #[Value.int IntKind.u8 0] l.length).toList.length
      rw [bcells_length, made_len]; omega
    go_wp2_with (refine wpList_copy_splice rfl _ _ 31 31 rfl 5 Try.underlying31 size5 _ _ _ _ _ _ rfl rfl w.heap.size 0 (madeCells #[Value.int IntKind.u8 0] l.length).toList 5 HB1.out (bcells l) HN.out HP.out HF.out (bcells_one l) w.heap.size w HB2.out (Nat.le_refl _) ?_; intro w2 HG hB2)
    go_ret
    refine ⟨_, rfl, ⟨_, _, rfl, fun _ => ⟨_, _, rfl, Nat.le_refl _, fun i x hx => ?_⟩⟩, hB2⟩
    rw [cell_of_blk HG.out, Nat.zero_add, splice_all (by rw [bcells_length, made_len]), List.getElem?_toArray]
    unfold bcells
    rw [List.getElem?_map, hx]
    rfl

end Go.Proofs.Qxb6606018a.done
