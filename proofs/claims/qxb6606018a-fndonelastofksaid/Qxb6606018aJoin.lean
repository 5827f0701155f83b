import Derived.Test.Qxb6606018aEncWalks
import Derived.Laws.AppendOwnNone
namespace Go.Proofs.Qxb6606018a.done
open Go.ChangeShapes Go.WideShapes Go.ChangeAt Go.RowKit

/-- the bytes l, at nil where there is none perhaps -/
def JB (w : World) (v : Value) (l : List UInt8) : Prop := (v = .slice none 0 0 ∧ l = []) ∨ HB 0 w v (some l)

theorem JB.keep {w w' : World} {v : Value} {l : List UInt8} (h : JB w v l) (k : Keeps 0 w w') : JB w' v l := by
  rcases h with h | h
  · exact Or.inl h
  · exact Or.inr (h.keep k)

theorem JB.shape {w : World} {v : Value} {l : List UInt8} (h : JB w v l) : ∃ a c, v = .slice a l.length c := by
  rcases h with ⟨rfl, rfl⟩ | ⟨a, c, e, _⟩
  · exact ⟨_, _, rfl⟩
  · exact ⟨_, _, e⟩

theorem holds_of_hb {w : World} {v : Value} {l : List UInt8} (h : HB 0 w v (some l)) : Lib.HoldsBytes w v l := by
  obtain ⟨a, c, e, hc⟩ := h
  refine ⟨some a, c, e, (fun h => by cases h), fun a' ha i x hx => ?_⟩
  obtain rfl := Option.some.inj ha
  obtain ⟨b, off, rfl, _, h'⟩ := hc (by intro e; rw [e] at hx; simp at hx)
  rw [addr_add]
  exact h' i x hx

theorem hb_of_fresh {B : Nat} {w : World} {v : Value} {l : List UInt8} (h : Lib.FreshBytes B w v l) : HB B w v (some l) := by
  obtain ⟨g, cap, zs, e, hB, hl, _, hz, hr, hb, hc, _⟩ := h
  refine ⟨_, _, e, fun _ => ⟨g, 0, rfl, hB, fun i x hx => ?_⟩⟩
  have hi : i < l.length := (List.getElem?_eq_some_iff.1 hx).1
  have hiz : i < zs.length := by omega
  rw [Nat.zero_add, hc i (by omega)]
  rw [← hb] at hx
  unfold Lib.bytesOf at hx
  rw [List.getElem?_map, List.getElem?_take, if_pos (by omega), List.getElem?_eq_getElem hiz] at hx
  have hx' : UInt8.ofNat (zs[i].toNat) = x := by simpa using hx
  have hr' := hr zs[i] (List.getElem_mem hiz)
  rw [List.getD_eq_getElem?_getD, List.getElem?_eq_getElem hiz, Option.getD_some, ← hx', UInt8.toNat_ofNat']
  congr 2
  omega

theorem parts_at {w : World} {B g cap : Nat} {ys : List (Option Addr × Nat × Nat)} {ls : List (List UInt8)} (hown : w.ownsRow B 31 1 (.slice (some ⟨g, 0, none⟩) ls.length cap) ls.length (ys.map encS)) (hh : Held w ys (ls.map some)) :
    Lib.PartsAt w ⟨g, 0, none⟩ (ys.map encS) ls := by
  have hlen : ys.length = ls.length := by have := hh.length; simpa using this
  refine ⟨by rw [List.length_map]; exact hlen, fun i v hv => ?_, fun i v l hv hl => ?_⟩
  · have hi : i < ls.length := by have := (List.getElem?_eq_some_iff.1 hv).1; rw [List.length_map] at this; omega
    rw [addr_add, Nat.zero_add, hown.cellAt i (by omega)]
    exact hv
  · rw [List.getElem?_map] at hv
    cases hy : ys[i]? with
    | none => rw [hy] at hv; cases hv
    | some y =>
      rw [hy] at hv
      obtain rfl := Option.some.inj hv
      exact holds_of_hb (hh.get hy (by rw [List.getElem?_map, hl]; rfl))

theorem join_any (w : World) (B g cap : Nat) (ys : List (Option Addr × Nat × Nat)) (ls : List (List UInt8)) (sv : Value) (hown : w.ownsRow B 31 1 (.slice (some ⟨g, 0, none⟩) ls.length cap) ls.length (ys.map encS)) (hh : Held w ys (ls.map some))
    (hS : HB 0 w sv (some [44])) (h1 : 1 ≤ ls.length) (hlen : Lib.lens ls + ls.length ≤ 10000000) :
    Calls Try.prog 32 #[.slice (some ⟨g, 0, none⟩) ls.length cap, sv] w fun e w' => ∃ v', e = .returned v' ∧ JB w' v' (Lib.join ls [44]) ∧ Below w.heap.size w w' := by
  have hP := parts_at hown hh
  have hcap : ls.length ≤ cap := by
    rcases hown.2 with ⟨e, _⟩ | ⟨g', cap', cur, e, _, _, h, _⟩
    · injection e with e; cases e
    · injection e with _ _ e3; omega
  by_cases h2 : 2 ≤ ls.length
  · refine (Go.Proofs.Any.bytes_Join_many laysJoin g 0 ls.length cap (ys.map encS) ls sv [44] w rfl h2 hP hcap (holds_of_hb hS) (by omega) (by simp; omega)).mono ?_
    rintro e w' ⟨v', rfl, hf, hb⟩
    exact ⟨v', rfl, Or.inr ((hb_of_fresh hf).lower (Nat.zero_le _)), hb⟩
  · obtain ⟨l0, rfl⟩ : ∃ l0, ls = [l0] := by
      match ls, h1, h2 with
      | [l0], _, _ => exact ⟨l0, rfl⟩
      | _ :: _ :: _, _, h2 => simp at h2
    rw [Lib.join_one]
    obtain ⟨p0, c0, l0', e0, hcell, hnil, hcs⟩ := hP.get 0 (by simp)
    have e0' : l0 = l0' := by simpa using e0
    subst e0'
    rw [addr_add] at hcell
    cases l0 with
    | nil =>
      refine (Go.Proofs.Any.bytes_Join_one_empty laysJoin g 0 cap p0 c0 sv w hcell).mono ?_
      rintro e w' ⟨rfl, rfl⟩
      exact ⟨_, rfl, Or.inl ⟨rfl, rfl⟩, Below.refl _ _⟩
    | cons x r =>
      cases p0 with
      | none => exact absurd (hnil rfl) (by simp)
      | some ad0 =>
        refine (Go.Proofs.Any.bytes_Join_one laysJoin g 0 cap ad0 c0 (x :: r) sv w hcell (hcs ad0 rfl) (by simp) (by simp [Lib.lens] at hlen ⊢; omega)).mono ?_
        rintro e w' ⟨v', rfl, hf, hb⟩
        exact ⟨v', rfl, Or.inr ((hb_of_fresh hf).lower (Nat.zero_le _)), hb⟩

end Go.Proofs.Qxb6606018a.done
