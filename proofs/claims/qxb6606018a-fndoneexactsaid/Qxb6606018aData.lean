import Derived.WalkKit
import Derived.ProofKit
/- How byte slices and slices of byte slices lie in memory: no walk in sight. -/
namespace Go.Proofs.Qxb6606018a.done
open Go.RowKit

/-- the cells from block lo on that hold something in w hold it in w' too -/
def Keeps (lo : Nat) (w w' : World) : Prop := ∀ b off v, lo ≤ b → w.cell? ⟨b, off, none⟩ = some v → w'.cell? ⟨b, off, none⟩ = some v

theorem Keeps.refl (lo : Nat) (w : World) : Keeps lo w w := fun _ _ _ _ h => h
theorem Keeps.trans {lo : Nat} {a b c : World} (h : Keeps lo a b) (k : Keeps lo b c) : Keeps lo a c := fun x y v hl hc => k x y v hl (h x y v hl hc)
theorem Keeps.of_below {lo : Nat} {w w' : World} (h : Below w.heap.size w w') : Keeps lo w w' := fun b off v _ hc => by
  rw [h.cell (p := ⟨b, off, none⟩) (World.block_lt_of_cell? _ _ hc)]; exact hc
theorem Keeps.setCell {lo : Nat} {w : World} {b0 o0 : Nat} (h : b0 < lo) (x : Value) : Keeps lo w (w.setCell ⟨b0, o0, none⟩ x) := fun b off v hl hc => by
  have hne : (⟨b0, o0, none⟩ : Addr) ≠ ⟨b, off, none⟩ := by intro e; injection e; omega
  rw [World.cell?_setCell_other _ _ _ _ hne]; exact hc

/-- the value v is a slice of the bytes o, or nil -/
def HB (lo : Nat) (w : World) (v : Value) : Option (List UInt8) → Prop
  | none => v = .slice none 0 0
  | some l => ∃ (a : Addr) (cap : Nat), v = .slice (some a) l.length cap ∧ (l ≠ [] → ∃ b off, a = ⟨b, off, none⟩ ∧ lo ≤ b ∧ ∀ i x, l[i]? = some x → w.cell? ⟨b, off + i, none⟩ = some (.int .u8 (x.toNat : Int)))

theorem HB.keep {lo : Nat} {w w' : World} {v : Value} {o : Option (List UInt8)} (h : HB lo w v o) (k : Keeps lo w w') : HB lo w' v o := by
  cases o with
  | none => exact h
  | some l =>
    obtain ⟨a, cap, e, hc⟩ := h
    refine ⟨a, cap, e, fun hl => ?_⟩
    obtain ⟨b, off, ea, hlo, hcell⟩ := hc hl
    exact ⟨b, off, ea, hlo, fun i x hx => k b _ _ hlo (hcell i x hx)⟩

theorem HB.lower {lo lo' : Nat} {w : World} {v : Value} {o : Option (List UInt8)} (h : HB lo w v o) (k : lo' ≤ lo) : HB lo' w v o := by
  cases o with
  | none => exact h
  | some l =>
    obtain ⟨a, cap, e, hc⟩ := h
    refine ⟨a, cap, e, fun hl => ?_⟩
    obtain ⟨b, off, ea, hlo, hcell⟩ := hc hl
    exact ⟨b, off, ea, by omega, hcell⟩

/-- the slice at A of n cells holds byte slices os -/
def HR (lo : Nat) (w : World) (A : Option Addr) (os : List (Option (List UInt8))) : Prop :=
  os ≠ [] → ∃ b off, A = some ⟨b, off, none⟩ ∧ lo ≤ b ∧ ∀ i o, os[i]? = some o → ∃ v, w.cell? ⟨b, off + i, none⟩ = some v ∧ HB lo w v o

theorem HR.keep {lo : Nat} {w w' : World} {A : Option Addr} {os : List (Option (List UInt8))} (h : HR lo w A os) (k : Keeps lo w w') : HR lo w' A os := fun hl => by
  obtain ⟨b, off, ea, hlo, hc⟩ := h hl
  refine ⟨b, off, ea, hlo, fun i o ho => ?_⟩
  obtain ⟨v, hv, hb⟩ := hc i o ho
  exact ⟨v, k b _ _ hlo hv, hb.keep k⟩

/-- the length of a byte slice -/
def blen : Option (List UInt8) → Nat
  | none => 0
  | some l => l.length

/-- a byte slice's value, whatever it holds, is a slice of its length -/
theorem HB.shape {lo : Nat} {w : World} {v : Value} {o : Option (List UInt8)} (h : HB lo w v o) : ∃ a cap, v = .slice a (blen o) cap := by
  cases o with
  | none => exact ⟨_, _, h⟩
  | some l =>
    obtain ⟨a, cap, e, _⟩ := h
    exact ⟨_, _, e⟩

/-- all bytes together -/
def tlen (os : List (Option (List UInt8))) : Nat := (os.map blen).sum

theorem tlen_take_succ {os : List (Option (List UInt8))} {k : Nat} {o : Option (List UInt8)} (h : os[k]? = some o) : tlen (os.take (k + 1)) = tlen (os.take k) + blen o := by
  unfold tlen
  rw [List.take_add_one, h]
  simp

theorem tlen_take_le (os : List (Option (List UInt8))) (k : Nat) : tlen (os.take k) ≤ tlen os := by
  have h : tlen os = tlen (os.take k) + tlen (os.drop k) := by
    unfold tlen
    rw [← List.sum_append_nat, ← List.map_append, List.take_append_drop]
  omega

end Go.Proofs.Qxb6606018a.done
