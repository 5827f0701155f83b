import Derived.Test.Qxb6606018aDel
namespace Go.Proofs.Qxb6606018a.done
open Go.ChangeShapes Go.WideShapes Go.ChangeAt Go.RowKit

theorem encS_one (xs : List (Option Addr × Nat × Nat)) : ∀ u ∈ xs.map encS, u.oneCell' = true := by
  intro u hu
  obtain ⟨x, _, rfl⟩ := List.mem_map.1 hu
  rfl

theorem sclone_any (w : World) (a : Addr) (cap : Nat) (os : List (Option (List UInt8))) (hr : HR 0 w (some a) os) (hn : os.length ≤ 1048576) :
    Calls Try.prog 29 #[.slice (some a) os.length cap] w fun e w' => ∃ g c xs, e = .returned (.slice (some ⟨g, 0, none⟩) os.length c) ∧ w'.ownsRow w.heap.size 31 1 (.slice (some ⟨g, 0, none⟩) os.length c) os.length (xs.map encS) ∧ w.heap.size ≤ g ∧ Held w xs os ∧ Below w.heap.size w w' := by
  have heq : ∀ (w : World) (a : Option Addr) (n c n' c' : Nat), (binOp .eql 25 (.slice a n c) (.slice none n' c')).run Try.prog w = .ok (.bool a.isNone) w := fun w a n c n' c' => Lib.run_eql_slice_nil w _ _ a n c n' c' Try.underlying25
  obtain ⟨xs, hx, hcell⟩ : ∃ xs, Held w xs os ∧ ∀ i x, xs[i]? = some x → w.cell? (a.add i) = some (encS x) := by
    by_cases h0 : os = []
    · subst h0
      exact ⟨[], trivial, fun i x h => by simp at h⟩
    · obtain ⟨b, off, e, _, hc⟩ := hr h0
      injection e with e
      subst e
      obtain ⟨xs, h1, h2⟩ := held_of_row os off hc
      exact ⟨xs, h1, fun i x h => by rw [addr_add]; exact h2 i x h⟩
  have HX : Hid (Held w xs os) := hx
  have hlen : Hid (xs.length = os.length) := hx.length
  have HC : Hid (∀ i x, xs[i]? = some x → w.cell? (a.add i) = some (encS x)) := hcell
  clear hr hx hcell
  obtain ⟨i0, hi, hz0, hz1, hz2⟩ := info_parts info31
  have HO : Hid ((w.alloc (.cells #[] 31)).ownsRow w.heap.size 31 1 (.slice (some ⟨w.heap.size, 0, none⟩) 0 0) 0 []) := World.ownsRow_made w #[] 0 (Nat.le_refl _) (by unfold maxLen; omega) rfl
  have HN : Hid (∀ j u, (xs.map encS)[j]? = some u → (w.alloc (.cells #[] 31)).cell? (a.add j) = some u) := fun j u hj => by
    rw [List.getElem?_map] at hj
    cases hxj : xs[j]? with
    | none => rw [hxj] at hj; cases hj
    | some x =>
      rw [hxj] at hj
      obtain rfl := Option.some.inj hj
      have h1 := HC.out j x hxj
      rw [World.cell?_alloc_lt _ _ _ (World.block_lt_of_cell? _ _ h1)]
      exact h1
  go_enter Try.func29, Try.ntmps29
  have HL1 : Hid ((xs.map encS).length = os.length * 1) := by
    show (xs.map encS).length = os.length * 1
    rw [List.length_map, hlen.out, Nat.mul_one]
  go_wp2_with (at_builtin; refine wpList_append_own _ rfl _ _ 25 rfl w.heap.size 31 i0 (.slice none 0 0) 1 24 Try.underlying25 hi hz0 hz1 hz2 rfl (by decide) _ 0 [] rfl HO.out a os.length cap (xs.map encS) rfl HL1.out HN.out (encS_one xs) (by unfold maxLen; omega) (by omega) (by simp) ?_; intro v1 w1 ho1 hg1 hn1)
  go_ret
  have ho : w1.ownsRow w.heap.size 31 1 v1 os.length (xs.map encS) := by simpa using ho1
  have hnn : v1 ≠ .slice none 0 0 := by
    intro e
    have := (hn1.1 e).1
    injection this with e1
    cases e1
  obtain ⟨g, c, e1, hb, _, _, _, _, _⟩ := Lib.holds_of_ownsRow ho hnn
  subst e1
  refine ⟨g, c, xs, rfl, ho, hb, HX.out, ?_⟩
  exact ((Below.refl _ _).alloc (Nat.le_refl _) _).grown hg1 (by simp) (fun k hk => by obtain rfl := Option.some.inj hk; exact Nat.le_refl _)

end Go.Proofs.Qxb6606018a.done
