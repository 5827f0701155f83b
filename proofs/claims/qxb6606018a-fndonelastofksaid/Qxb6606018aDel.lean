import Derived.Test.Qxb6606018aShelf
import Derived.Test.Qxb6606018aModel
import Derived.Lib.OwnBridge
namespace Go.Proofs.Qxb6606018a.done
open Go.ChangeShapes Go.WideShapes Go.ChangeAt Go.RowKit

/-- a slice value told by its three parts -/
def encS (x : Option Addr × Nat × Nat) : Value := .slice x.1 x.2.1 x.2.2

/-- the slice values xs hold the byte slices os, one by one -/
def Held (w : World) : List (Option Addr × Nat × Nat) → List (Option (List UInt8)) → Prop
  | [], [] => True
  | x :: xs, o :: os => HB 0 w (encS x) o ∧ Held w xs os
  | _, _ => False

theorem Held.length {w : World} : ∀ {xs : List (Option Addr × Nat × Nat)} {os : List (Option (List UInt8))}, Held w xs os → xs.length = os.length
  | [], [], _ => rfl
  | _ :: _, _ :: _, h => by simp [Held.length h.2]
  | [], _ :: _, h => h.elim
  | _ :: _, [], h => h.elim

theorem Held.keep {w w' : World} (k : Keeps 0 w w') : ∀ {xs : List (Option Addr × Nat × Nat)} {os : List (Option (List UInt8))}, Held w xs os → Held w' xs os
  | [], [], _ => trivial
  | _ :: _, _ :: _, h => ⟨h.1.keep k, Held.keep k h.2⟩
  | [], _ :: _, h => h.elim
  | _ :: _, [], h => h.elim

theorem Held.get {w : World} : ∀ {xs : List (Option Addr × Nat × Nat)} {os : List (Option (List UInt8))}, Held w xs os → ∀ {i : Nat} {x : Option Addr × Nat × Nat} {o : Option (List UInt8)}, xs[i]? = some x → os[i]? = some o → HB 0 w (encS x) o
  | _ :: _, _ :: _, h, 0, x, o, h1, h2 => by
    simp at h1 h2
    subst h1 h2
    exact h.1
  | _ :: _, _ :: _, h, i + 1, x, o, h1, h2 => Held.get h.2 (i := i) (by simpa using h1) (by simpa using h2)
  | [], _, _, _, _, _, h1, _ => by simp at h1
  | _ :: _, [], h, _, _, _, _, _ => h.elim

/-- a row as it lies in memory gives such a list -/
theorem held_of_row {w : World} {b : Nat} : ∀ (os : List (Option (List UInt8))) (off : Nat), (∀ i o, os[i]? = some o → ∃ v, w.cell? ⟨b, off + i, none⟩ = some v ∧ HB 0 w v o) →
    ∃ xs, Held w xs os ∧ ∀ i x, xs[i]? = some x → w.cell? ⟨b, off + i, none⟩ = some (encS x)
  | [], _, _ => ⟨[], trivial, fun i x h => by simp at h⟩
  | o :: os, off, h => by
    obtain ⟨v, hv, hb⟩ := h 0 o rfl
    obtain ⟨a, c, rfl⟩ := hb.shape
    obtain ⟨xs, h1, h2⟩ := held_of_row os (off + 1) (fun i o' ho => by
      obtain ⟨v', hv', hb'⟩ := h (i + 1) o' (by simpa using ho)
      exact ⟨v', by rw [show off + 1 + i = off + (i + 1) by omega]; exact hv', hb'⟩)
    refine ⟨(a, blen o, c) :: xs, ⟨hb, h1⟩, fun i x hx => ?_⟩
    cases i with
    | zero =>
      simp at hx
      subst hx
      exact hv
    | succ i =>
      have := h2 i x (by simpa using hx)
      rw [show off + 1 + i = off + (i + 1) by omega] at this
      exact this

/-- the values that are not nil hold the parts -/
def keepB (x : Option Addr × Nat × Nat) : Bool := !x.1.isNone

theorem held_filter {w : World} : ∀ {xs : List (Option Addr × Nat × Nat)} {os : List (Option (List UInt8))}, Held w xs os → Held w (xs.filter fun x => !x.1.isNone) ((parts os).map some)
  | [], [], _ => trivial
  | x :: xs, none :: os, h => by
    have e : x.1.isNone = true := by
      have h1 : encS x = .slice none 0 0 := h.1
      unfold encS at h1
      injection h1 with e1
      rw [e1]; rfl
    rw [List.filter_cons_of_neg (by rw [e]; decide)]
    show Held w _ ((parts os).map some)
    exact held_filter h.2
  | x :: xs, some l :: os, h => by
    have e : x.1.isNone = false := by
      obtain ⟨a, cap, e, _⟩ := h.1
      unfold encS at e
      injection e with e1
      rw [e1]; rfl
    rw [List.filter_cons_of_pos (by rw [e]; decide)]
    exact ⟨h.1, held_filter h.2⟩
  | [], _ :: _, h => h.elim
  | _ :: _, [], h => h.elim

/-- the closure that asks for nil -/
theorem nil_gives (x : Option Addr × Nat × Nat) (W : World) : Go.Proofs.FnGives Try.prog 30 #[] #[encS x] (.bool x.1.isNone) W := by
  have heq : ∀ (w : World) (a : Option Addr) (n c n' c' : Nat), (binOp .eql 31 (.slice a n c) (.slice none n' c')).run Try.prog w = .ok (.bool a.isNone) w := fun w a n c n' c' => Lib.run_eql_slice_nil w _ _ a n c n' c' Try.underlying31
  show Calls Try.prog 30 #[encS x] W _
  unfold encS
  go_enter Try.func30, Try.ntmps30
  go_wp2
  go_ret
  exact ⟨rfl, 0, rfl⟩

theorem delete_any (w : World) (B : Nat) (g cap : Nat) (xs : List (Option Addr × Nat × Nat)) (hown : w.ownsRow B 31 1 (.slice (some ⟨g, 0, none⟩) xs.length cap) xs.length (xs.map encS)) (hn : xs.length ≤ 1048576) :
    Calls Try.prog 28 #[.slice (some ⟨g, 0, none⟩) xs.length cap, .func (.func 30) #[] #[]] w fun e w' => e = .returned (.slice (some ⟨g, 0, none⟩) (xs.filter fun x => !x.1.isNone).length cap) ∧
      w'.ownsRow B 31 1 (.slice (some ⟨g, 0, none⟩) (xs.filter fun x => !x.1.isNone).length cap) (xs.filter fun x => !x.1.isNone).length ((xs.filter fun x => !x.1.isNone).map encS) ∧ (∀ B' w0, Below B' w0 w → B' ≤ g → Below B' w0 w') := by
  have eg : ∀ args w, (callFunc 30 args).run Try.prog w = .ok (.enter 30 args) w := enters_of Try.func30 (by kernel_rfl) rfl
  obtain ⟨g', cap', e1, hb, hlt, hnc, hm, hl, hH⟩ := Lib.holds_of_ownsRow hown (by intro e; injection e with e1; cases e1)
  injection e1 with e1 e2 e3
  injection e1 with e1
  injection e1 with e1
  subst e1 e3
  have hcon := Go.Proofs.AnyE.slices_DeleteFunc laysDelete encS (fun _ => rfl) (fun x => x.1.isNone) 30 #[] eg (none, 0, 0) Try.zeroValue31 g 0 cap xs.toArray w
    (fun W x _ => nil_gives x W) (fun n os dk x _ => nil_gives x _) hH (by simp; omega) (by simpa using hnc)
  have hle : (xs.filter fun x => !x.1.isNone).length ≤ xs.length := List.length_filter_le _ _
  have hcon' : Calls Try.prog 28 #[.slice (some ⟨g, 0, none⟩) xs.length cap, .func (.func 30) #[] #[]] w _ := hcon
  refine hcon'.mono ?_
  rintro e w' ⟨rfl, q, rfl⟩
  refine ⟨rfl, ?_, fun B' w0 h1 h2 => Lib.below_putRow h1 h2⟩
  have := Lib.ownsRow_putRow (q := q) (k := (xs.filter fun x => !x.1.isNone).length) (ys := (xs.filter fun x => !x.1.isNone) ++ List.replicate (xs.length - (xs.filter fun x => !x.1.isNone).length) (none, 0, 0)) hown (by rw [List.length_append, List.length_replicate]; omega) hle
  rw [List.take_left'] at this
  · exact this
  · rfl

end Go.Proofs.Qxb6606018a.done
