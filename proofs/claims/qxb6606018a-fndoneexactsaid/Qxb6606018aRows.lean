/-
  No cell of these rows narrows 'for every input' (looked for: loops, veiled, ifaces, maps, wideKeys, modest, calm, conditions, laid).
  DERIVED. THE GIVEN ROWS OF THIS SEAT. 4 by the template 'for every input the law returns true; each argument reads behind the call as it read before'; 0 by the template 'total and deterministic' (their statements: Qxb6606018aTotals.lean).
  GIVEN WITH THE SEED: the statements are not yours to turn. If you find one false, say at which input.
  Laid BY PROGRAM, IN A SANDBOX (cutbox-rows.mjs): the forced cells as the released guide's own fill.sh prints them over the translation 24db50a501acce14… (all of the seat's roots in one cut). By AI agents, Wed Nov 11 2026. No macro, syntax, notation, axiom, sorry.
-/
import Derived.Test.Qxb6606018aChecked
import GoSem.Claim
import GoSem.ClaimJoined
import GoSem.ClaimMapViews
import Derived.JoinedTies
import Derived.KernelRfl
namespace Go.Proofs.Qxb6606018a
/- THE CELL 'sum', in the pinned program and in every row, IS THE sha256 OF THE DUMP (.gsa) THAT Qxb6606018aProg.lean LOADS. Nothing in Lean hashes anything: it is a label: what it is worth is what the hold of that sum in a sandbox is worth. -/
noncomputable def Try.pinned : Pinned := { name := "qxb6606018a", sum := "24db50a501acce14201a63d449e3cb593c543a901294fe123ab155934095a769", checked := Try.checked }
namespace Rows
def none {H : Type} : Left H := { results := [], args := [] }

/-- 'zzlaws_root_b1.FnHoldsExact': WHATEVER THE INPUT: true; the input reads as it did. -/
def fnHoldsExactSpec : ChangeSpec := { name := "fnHoldsExact", fn := fun _ => fun
  | [d1, d2, d3] => { results := [.lit (.bool true)], args := [d1, d2, d3] }
  | _ => none }
def fnHoldsExactRow : OpenClaim := { program := "qxb6606018a", sum := "24db50a501acce14201a63d449e3cb593c543a901294fe123ab155934095a769", func := "example.com/humble-dispatch/humble-dispatch/zzlaws_root_b1.FnHoldsExact", spec := "fnHoldsExact", apart := false }
def FnHoldsExactSaid : Prop := fnHoldsExactRow.holds Try.pinned (OpenSpec.ofChange fnHoldsExactSpec)

/-- ITS FALSE NEIGHBOUR: 'it returns false'. Refute it at one input. -/
def fnHoldsExactWrong : ChangeSpec := { name := "fnHoldsExact", fn := fun _ => fun
  | [d1, d2, d3] => { results := [.lit (.bool false)], args := [d1, d2, d3] }
  | _ => none }
def FnHoldsExactWrongFalsely : Prop := fnHoldsExactRow.holds Try.pinned (OpenSpec.ofChange fnHoldsExactWrong)

/-- 'zzlaws_root_b1.FnHoldsEndsAndShift': WHATEVER THE INPUT: true; the input reads as it did. -/
def fnHoldsEndsAndShiftSpec : ChangeSpec := { name := "fnHoldsEndsAndShift", fn := fun _ => fun
  | [d1, d2, d3, d4] => { results := [.lit (.bool true)], args := [d1, d2, d3, d4] }
  | _ => none }
def fnHoldsEndsAndShiftRow : OpenClaim := { program := "qxb6606018a", sum := "24db50a501acce14201a63d449e3cb593c543a901294fe123ab155934095a769", func := "example.com/humble-dispatch/humble-dispatch/zzlaws_root_b1.FnHoldsEndsAndShift", spec := "fnHoldsEndsAndShift", apart := false }
def FnHoldsEndsAndShiftSaid : Prop := fnHoldsEndsAndShiftRow.holds Try.pinned (OpenSpec.ofChange fnHoldsEndsAndShiftSpec)

/-- ITS FALSE NEIGHBOUR: 'it returns false'. Refute it at one input. -/
def fnHoldsEndsAndShiftWrong : ChangeSpec := { name := "fnHoldsEndsAndShift", fn := fun _ => fun
  | [d1, d2, d3, d4] => { results := [.lit (.bool false)], args := [d1, d2, d3, d4] }
  | _ => none }
def FnHoldsEndsAndShiftWrongFalsely : Prop := fnHoldsEndsAndShiftRow.holds Try.pinned (OpenSpec.ofChange fnHoldsEndsAndShiftWrong)

/-- 'zzlaws_root_b1.FnDoneExact': WHATEVER THE INPUT: true; the input reads as it did. -/
def fnDoneExactSpec : ChangeSpec := { name := "fnDoneExact", fn := fun _ => fun
  | [d1, d2] => { results := [.lit (.bool true)], args := [d1, d2] }
  | _ => none }
def fnDoneExactRow : OpenClaim := { program := "qxb6606018a", sum := "24db50a501acce14201a63d449e3cb593c543a901294fe123ab155934095a769", func := "example.com/humble-dispatch/humble-dispatch/zzlaws_root_b1.FnDoneExact", spec := "fnDoneExact", inPlace := ["sync/atomic.StoreInt64", "sync/atomic.AddInt64", "internal/bytealg.MakeNoZero", "sync/atomic.LoadInt64"], unfollowed := true, recurses := true, apart := false }
def FnDoneExactSaid : Prop := fnDoneExactRow.holds Try.pinned (OpenSpec.ofChange fnDoneExactSpec)

/-- ITS FALSE NEIGHBOUR: 'it returns false'. Refute it at one input. -/
def fnDoneExactWrong : ChangeSpec := { name := "fnDoneExact", fn := fun _ => fun
  | [d1, d2] => { results := [.lit (.bool false)], args := [d1, d2] }
  | _ => none }
def FnDoneExactWrongFalsely : Prop := fnDoneExactRow.holds Try.pinned (OpenSpec.ofChange fnDoneExactWrong)

/-- 'zzlaws_root_b1.FnDoneLastOfK': WHATEVER THE INPUT: true; the input reads as it did. -/
def fnDoneLastOfKSpec : ChangeSpec := { name := "fnDoneLastOfK", fn := fun _ => fun
  | [d1, d2] => { results := [.lit (.bool true)], args := [d1, d2] }
  | _ => none }
def fnDoneLastOfKRow : OpenClaim := { program := "qxb6606018a", sum := "24db50a501acce14201a63d449e3cb593c543a901294fe123ab155934095a769", func := "example.com/humble-dispatch/humble-dispatch/zzlaws_root_b1.FnDoneLastOfK", spec := "fnDoneLastOfK", inPlace := ["sync/atomic.StoreInt64", "sync/atomic.AddInt64", "internal/bytealg.MakeNoZero", "sync/atomic.LoadInt64"], unfollowed := true, recurses := true, apart := false }
def FnDoneLastOfKSaid : Prop := fnDoneLastOfKRow.holds Try.pinned (OpenSpec.ofChange fnDoneLastOfKSpec)

/-- ITS FALSE NEIGHBOUR: 'it returns false'. Refute it at one input. -/
def fnDoneLastOfKWrong : ChangeSpec := { name := "fnDoneLastOfK", fn := fun _ => fun
  | [d1, d2] => { results := [.lit (.bool false)], args := [d1, d2] }
  | _ => none }
def FnDoneLastOfKWrongFalsely : Prop := fnDoneLastOfKRow.holds Try.pinned (OpenSpec.ofChange fnDoneLastOfKWrong)

end Rows
end Go.Proofs.Qxb6606018a
