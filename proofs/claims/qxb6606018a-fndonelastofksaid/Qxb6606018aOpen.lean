import Derived.Test.Qxb6606018aData
import Derived.Deep.Matrix
import Derived.OpenShut
/- From what the row's reading of a [][]byte hands over to 'HR': no walk in sight. -/
namespace Go.Proofs.Qxb6606018a.done
open Go.ChangeShapes Go.WideShapes Go.ChangeAt Go.RowKit

theorem plain_of_cell {w : World} {a : Addr} {v : Value} (h : w.cell? (a.add 0) = some v) : ∃ b off, a = ⟨b, off, none⟩ := by
  obtain ⟨b, off, spot⟩ := a
  have hspot : spot = none := by simpa [Addr.add] using World.cell?_spot h
  subst hspot
  exact ⟨b, off, rfl⟩

theorem add_at (b o i : Nat) : (⟨b, o, none⟩ : Addr).add i = ⟨b, o + i, none⟩ := by unfold Addr.add; split <;> simp_all

/-- what one row of the argument holds -/
def rowBytes (A : Option Addr) (L : Nat) (zs : List Int) : Option (List UInt8) :=
  match A with
  | none => none
  | some _ => some ((zs.take L).map fun z => UInt8.ofNat z.toNat)

theorem hb_of_open {w : World} {A : Option Addr} {L C : Nat} {zs : List Int} (h1 : L ≤ C) (h2 : zs.length = C) (h3 : ∀ n ∈ zs, (Lit.int .u8 n).wf = true) (h4 : A = none → C = 0)
    (h5 : ∀ a', A = some a' → ∀ c, c < C → w.cell? (a'.add c) = some (.int .u8 (zs.getD c 0))) : HB 0 w (.slice A L C) (rowBytes A L zs) := by
  cases A with
  | none =>
    have := h4 rfl
    subst this
    have : L = 0 := by omega
    subst this
    exact rfl
  | some a =>
    have hlen : ((zs.take L).map fun z => UInt8.ofNat z.toNat).length = L := by rw [List.length_map, List.length_take]; omega
    refine ⟨a, C, by rw [hlen], fun hne => ?_⟩
    have hL : 0 < L := by
      apply Nat.pos_of_ne_zero
      intro e
      exact hne (List.eq_nil_of_length_eq_zero (by rw [hlen, e]))
    obtain ⟨b, off, rfl⟩ := plain_of_cell (h5 a rfl 0 (by omega))
    refine ⟨b, off, rfl, Nat.zero_le _, fun i x hx => ?_⟩
    have hi : i < L := by have := (List.getElem?_eq_some_iff.1 hx).1; omega
    have hiz : i < zs.length := by omega
    have hc := h5 _ rfl i (by omega)
    rw [add_at] at hc
    rw [hc]
    rw [List.getElem?_map, List.getElem?_take, if_pos hi, List.getElem?_eq_getElem hiz] at hx
    have hx' : UInt8.ofNat (zs[i].toNat) = x := by simpa using hx
    have hr := bounds_u8 (h3 zs[i] (List.getElem_mem hiz))
    rw [List.getD_eq_getElem?_getD, List.getElem?_eq_getElem hiz, Option.getD_some, ← hx', UInt8.toNat_ofNat']
    congr 2
    omega

theorem hr_of_open {w : World} {a : Addr} {len cap : Nat} {A : Nat → Option Addr} {L C : Nat → Nat} {Z : Nat → List Int} (hl : len ≤ cap)
    (h : ∀ r, r < cap → w.cell? (a.add r) = some (.slice (A r) (L r) (C r)) ∧ L r ≤ C r ∧ C r ≤ maxLen ∧ (Z r).length = C r ∧ (∀ n ∈ Z r, (Lit.int .u8 n).wf = true) ∧ (A r = none → C r = 0) ∧
        ∀ a', A r = some a' → 0 ≤ a'.block ∧ ∀ c, c < C r → w.cell? (a'.add c) = some (.int .u8 ((Z r).getD c 0))) :
    HR 0 w (some a) ((List.range len).map fun r => rowBytes (A r) (L r) (Z r)) := by
  intro hne
  have hlen : 0 < len := by
    apply Nat.pos_of_ne_zero
    intro e
    subst e
    exact hne rfl
  obtain ⟨b, off, rfl⟩ := plain_of_cell (h 0 (by omega)).1
  refine ⟨b, off, rfl, Nat.zero_le _, fun i o ho => ?_⟩
  rw [List.getElem?_map] at ho
  have hi : i < len := by
    rcases Nat.lt_or_ge i len with h' | h'
    · exact h'
    · rw [List.getElem?_eq_none (by simpa using h')] at ho; cases ho
  rw [List.getElem?_range hi] at ho
  obtain rfl := Option.some.inj ho
  obtain ⟨g1, g2, g3, g4, g5, g6, g7⟩ := h i (by omega)
  rw [add_at] at g1
  exact ⟨_, g1, hb_of_open g2 g4 g5 g6 (fun a' ha => (g7 a' ha).2)⟩

end Go.Proofs.Qxb6606018a.done
