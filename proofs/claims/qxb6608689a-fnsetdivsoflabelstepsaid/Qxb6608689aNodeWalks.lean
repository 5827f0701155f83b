import Derived.Test.Qxb6608689aItoa
namespace Go.Proofs.Qxb6608689a.labelWalks
open Go.ChangeShapes Go.WideShapes Go.ChangeAt Go.RowKit
open Go.Proofs.Qxb6608689a.bytes

/-- a node that holds nothing but a number and its divisions -/
def nodeObj (d : Int) (s : ByteArray) : Obj :=
  .cells #[.int .u8 0, .bool false, .int .u32 d, .int .u32 0, .int .u32 0, .slice none 0 0, .pointer none, .pointer none, .string s, .string ⟨#[]⟩, .pointer none, .pointer none, .pointer none] 56

/-- the number that setDivs lays -/
def divOf (s : ByteArray) (d : Int) : Prop := (IsDiv s ∧ d = valTo s s.size) ∨ (¬ IsDiv s ∧ d = 0)

theorem divOf_ex (s : ByteArray) : ∃ d, divOf s d := by
  by_cases h : IsDiv s
  · exact ⟨_, Or.inl ⟨h, rfl⟩⟩
  · exact ⟨_, Or.inr ⟨h, rfl⟩⟩

theorem newNode_any (w : World) :
    Calls Try.prog 17 #[] w fun e w' => e = .returned (.pointer (some ⟨w.heap.size, 0, none⟩)) ∧ w' = w.alloc (nodeObj 0 ⟨#[]⟩) := by
  go_enter Try.func17, Try.ntmps17
  go_wp2
  go_ret
  exact ⟨rfl, rfl⟩

theorem setDivs_any (s : ByteArray) (w : World) (d : Int) (hd : divOf s d) (hs : s.size ≤ 1048576) :
    Calls Try.prog 26 #[.pointer (some ⟨w.heap.size, 0, none⟩), .string s] (w.alloc (nodeObj 0 ⟨#[]⟩)) fun e w' => e = .returned (.tuple #[]) ∧ w' = w.alloc (nodeObj d s) := by
  unfold nodeObj
  rcases hd with ⟨h, rfl⟩ | ⟨h, rfl⟩
  · have H : Hid (IsDiv s) := h
    clear h
    go_enter Try.func26, Try.ntmps26
    go_wp2_with (go_at_call 30; refine (divNumber_yes _ _ H.out).mono ?_; rintro e w' ⟨rfl, rfl⟩)
    go_end0
    exact ⟨rfl, rfl⟩
  · have H : Hid (¬ IsDiv s) := h
    clear h
    go_enter Try.func26, Try.ntmps26
    go_wp2_with (go_at_call 30; refine (divNumber_no _ _ hs H.out).mono ?_; rintro e w' ⟨rfl, rfl⟩)
    go_end0
    exact ⟨rfl, rfl⟩

theorem zzSetDivs_any (s : ByteArray) (w : World) (d : Int) (hd : divOf s d) (hs : s.size ≤ 1048576) :
    Calls Try.prog 18 #[.pointer (some ⟨w.heap.size, 0, none⟩), .string s] (w.alloc (nodeObj 0 ⟨#[]⟩)) fun e w' => e = .returned (.tuple #[]) ∧ w' = w.alloc (nodeObj d s) := by
  have H : Hid (divOf s d) := hd
  clear hd
  go_enter Try.func18, Try.ntmps18
  go_wp2_with (go_at_call 26; refine (setDivs_any s w d H.out hs).mono ?_; rintro e w' ⟨rfl, rfl⟩)
  go_end0
  exact ⟨rfl, rfl⟩

theorem nodeDiv_any (s : ByteArray) (w : World) (d : Int) :
    Calls Try.prog 19 #[.pointer (some ⟨w.heap.size, 0, none⟩)] (w.alloc (nodeObj d s)) fun e w' => e = .returned (.int .u32 d) ∧ w' = w.alloc (nodeObj d s) := by
  unfold nodeObj
  go_enter Try.func19, Try.ntmps19
  go_wp2
  go_ret
  exact ⟨rfl, rfl⟩

theorem nodeDivs_any (s : ByteArray) (w : World) (d : Int) :
    Calls Try.prog 20 #[.pointer (some ⟨w.heap.size, 0, none⟩)] (w.alloc (nodeObj d s)) fun e w' => e = .returned (.string s) ∧ w' = w.alloc (nodeObj d s) := by
  unfold nodeObj
  go_enter Try.func20, Try.ntmps20
  go_wp2
  go_ret
  exact ⟨rfl, rfl⟩

theorem matches_any (s : ByteArray) (w : World) (d : Int) (hd : divOf s d) (hs : s.size ≤ 1048576) :
    Calls Try.prog 21 #[.string s, .int .u32 d] w fun e w' => e = .returned (.bool true) ∧ Grown w w' := by
  rcases hd with ⟨h, rfl⟩ | ⟨h, rfl⟩
  · have h1 := val_lt9 h (Nat.le_refl s.size)
    have h2 : 0 < valTo s s.size := by
      have := val_pos h (s.size - 1) (by have := h.pos; omega)
      rwa [Nat.sub_add_cancel h.pos] at this
    have h3 : ((valTo s s.size : Int) == 0) = false := beqf (by omega)
    have H : Hid (IsDiv s) := h
    clear h
    go_enter Try.func21, Try.ntmps21
    go_wp2_with fail
    refine (itoa_any s _ H.out).mono ?_
    rintro e w' ⟨rfl, hg⟩
    go_wp2
    go_ret
    exact ⟨rfl, hg⟩
  · have H : Hid (¬ IsDiv s) := h
    clear h
    go_enter Try.func21, Try.ntmps21
    go_wp2_with (go_at_call 27; refine (oneDiv_no _ _ hs H.out).mono ?_; rintro e w' ⟨rfl, rfl⟩)
    go_ret
    exact ⟨rfl, Grown.refl _⟩

end Go.Proofs.Qxb6608689a.labelWalks
