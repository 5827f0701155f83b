import Derived.Test.Qxb6606018aEncode
import Derived.Test.Qxb6606018aCloneB
namespace Go.Proofs.Qxb6606018a.done
open Go.ChangeShapes Go.WideShapes Go.ChangeAt Go.RowKit

/-- v is a slice, not nil, of the call's own bytes l; below block B all is as it was -/
structure OutIs (B : Nat) (w0 w : World) (v : Value) (l : List UInt8) : Prop where
  own : w.ownsRow B 5 1 v l.length (bcells l)
  nn : v ≠ .slice none 0 0
  below : Below B w0 w
  base : B ≤ w.heap.size

theorem OutIs.alloc {B : Nat} {w0 w : World} {v : Value} {l : List UInt8} (h : OutIs B w0 w v l) (o : Obj) : OutIs B w0 (w.alloc o) v l :=
  ⟨h.own.alloc o, h.nn, h.below.alloc h.base o, by have := h.base; simp; omega⟩

theorem bcells_append (a b : List UInt8) : bcells (a ++ b) = bcells a ++ bcells b := by unfold bcells; rw [List.map_append]

theorem wpList_append_bytes {w : World} {ops : Array Oper} {rest : List Oper} {o : Oper} {a : Act} {Q : Exit → Act → World → Prop} (hgd : o.guard = none) (s x : Operand)
    (ho : o.op = .call { callee := .builtin .append, args := #[s, x], argTypes := #[31, 31] }) (B : Nat) (w0 : World) (v : Value) (l : List UInt8) (hs : a.eval s = v) (hout : OutIs B w0 w v l)
    (ad : Addr) (c : Nat) (news : List UInt8) (hx : a.eval x = .slice (some ad) news.length c) (hnews : ∀ j x, news[j]? = some x → w.cell? (ad.add j) = some (.int .u8 (x.toNat : Int))) (hb : l.length + news.length ≤ 100000000)
    (h : ∀ v' w', OutIs B w0 w' v' (l ++ news) → wpList Try.prog ops Q rest (a.put o.dst v') w') : wpList Try.prog ops Q (o :: rest) a w := by
  obtain ⟨i0, hi, hz0, hz1, hz2⟩ := info_parts info5
  refine wpList_append_own w hgd s x 31 ho B 5 i0 (.int .u8 0) 1 1 Try.underlying31 hi hz0 hz1 hz2 rfl (by decide) v l.length (bcells l) hs hout.own ad news.length c (bcells news) hx (by rw [bcells_length]; omega) (fun j u hj => ?_) (bcells_one news) (by unfold maxLen; omega) (by omega) hout.base (fun v' w' h1 h2 h3 => h v' w' ⟨?_, ?_, ?_, ?_⟩)
  · obtain ⟨y, hy, rfl⟩ := bcells_get hj
    exact hnews j y hy
  · rw [List.length_append, bcells_append]; exact h1
  · intro e
    exact hout.nn (h3.1 e).1
  · exact hout.below.grown h2 hout.base (fun k hk => (hout.own.lt k hk).1)
  · have := h2.size; have := hout.base; omega

/-- such a slice is told as a byte slice -/
theorem OutIs.hb {B : Nat} {w0 w : World} {v : Value} {l : List UInt8} (h : OutIs B w0 w v l) : HB B w v (some l) := by
  rcases h.own.2 with ⟨h1, _⟩ | ⟨g, cap, cur, h1, h2, h3, h4, h5, h6, h7⟩
  · exact absurd h1 h.nn
  · refine ⟨_, _, h1, fun _ => ⟨g, 0, rfl, h2, fun i x hx => ?_⟩⟩
    have hi : i < l.length := (List.getElem?_eq_some_iff.1 hx).1
    rw [cell_of_blk h3, Nat.zero_add]
    have e : (bcells l)[i]? = some (.int .u8 (x.toNat : Int)) := by unfold bcells; rw [List.getElem?_map, hx]; rfl
    rw [← h7, Nat.mul_one, List.getElem?_take, if_pos hi, Array.getElem?_toList] at e
    exact e

/-- what 'make([]byte, 0, n)' lays -/
theorem OutIs.made (w : World) (n : Nat) (hn : n ≤ maxLen) : OutIs w.heap.size w (w.alloc (.cells (madeCells #[.int .u8 0] n) 5)) (.slice (some ⟨w.heap.size, 0, none⟩) 0 n) [] := by
  refine ⟨World.ownsRow_made w _ _ (Nat.le_refl _) hn (by rw [size_madeCells, Nat.mul_one]), ?_, (Below.refl _ _).alloc (Nat.le_refl _) _, by simp⟩
  intro e
  injection e with e1
  cases e1

/-- the one cell that a literal '[]byte{c}' lays -/
theorem one_new (W : World) (g : Nat) (hg : g = W.heap.size) (n : Int) (c : UInt8) (hc : (c.toNat : Int) = n) : ∀ j x, [c][j]? = some x → (W.alloc (.cells #[.int .u8 n] 5)).cell? ((⟨g, 0, none⟩ : Addr).add j) = some (.int .u8 (x.toNat : Int)) := by
  intro j x hj
  subst hg
  match j, hj with
  | 0, hj =>
    obtain rfl : c = x := by simpa using hj
    rw [addr_add, World.cell?_alloc_new, ← hc]
    rfl
  | j + 1, hj => simp at hj

/-- a world in which all that lay below B lies as it did keeps what lay in w -/
theorem below_keeps {w wr : World} (h : Below w.heap.size w wr) : Keeps 0 w wr := Keeps.of_below h

theorem model_any (w : World) (A : Option Addr) (cap : Nat) (os : List (Option (List UInt8))) (hr : HR 0 w A os) (hl : 24 * os.length + tlen os ≤ 1048576) :
    Calls Try.prog 14 #[.slice A os.length cap] w fun e w' => ∃ v', e = .returned v' ∧ HB w.heap.size w' v' (encode os) ∧ Below w.heap.size w w' := by
  have heq : ∀ (w : World) (a : Option Addr) (n c n' c' : Nat), (binOp .eql 31 (.slice a n c) (.slice none n' c')).run Try.prog w = .ok (.bool a.isNone) w := fun w a n c n' c' => Lib.run_eql_slice_nil w _ _ a n c n' c' Try.underlying31
  have hneq : ∀ (w : World) (a : Option Addr) (n c n' c' : Nat), (binOp .neq 31 (.slice a n c) (.slice none n' c')).run Try.prog w = .ok (.bool (!a.isNone)) w := fun w a n c n' c' => run_neq_slice_nil_any w _ _ a n c n' c' Try.underlying31
  have HR0 : Hid (HR 0 w A os) := hr
  have HL : Hid (24 * os.length + tlen os ≤ 1048576) := hl
  have hn : os.length ≤ 1048576 := by omega
  clear hr hl
  go_enter Try.func14, Try.ntmps14
  go_wp2
  go_loop [3, 4, 5] (fun c s i => ∃ k : Nat, k ≤ os.length ∧ i = .int .i64 k ∧ c = .int .i64 (parts (os.take k)).length ∧ s = .int .i64 (tlen (os.take k))) (fun _ _ i => os.length - (intOf i).toNat)
  case atStart => exact ⟨0, by omega, rfl, rfl, rfl⟩
  case round =>
    obtain ⟨k, hk, rfl, rfl, rfl⟩ := hrel
    have hp := parts_len os k
    have ht : tlen (os.take k) ≤ 1048576 := by have := tlen_take_le os k; have := HL.out; omega
    by_cases hlt : k < os.length
    · obtain ⟨b, off, rfl, _, hc⟩ := HR0.out (by intro e; rw [e] at hlt; simp at hlt)
      obtain ⟨v, hv, hb⟩ := hc k os[k] (List.getElem?_eq_getElem hlt)
      have hok : os[k]? = some os[k] := List.getElem?_eq_getElem hlt
      generalize os[k] = o at hb hok
      have hts : Hid (tlen (os.take (k + 1)) = tlen (os.take k) + blen o) := tlen_take_succ hok
      have hts2 : tlen (os.take k) + blen o ≤ 1048576 := by have := tlen_take_le os (k + 1); have := HL.out; have := hts.out; omega
      clear hc
      cases o with
      | none =>
        cases hb
        have hps : Hid (parts (os.take (k + 1)) = parts (os.take k)) := parts_none hok
        clear hok
        go_wp2
        go_round
        case rel => exact ⟨k + 1, by omega, by go_num, by rw [hps.out], by rw [hts.out]; rfl⟩
        case measure => simp [intOf]; omega
      | some l =>
        obtain ⟨a, c, rfl, _⟩ := hb
        have hps : Hid (parts (os.take (k + 1)) = parts (os.take k) ++ [l]) := parts_some hok
        clear hok
        have hts3 : tlen (os.take k) + l.length ≤ 1048576 := hts2
        clear hts2
        go_wp2
        go_round
        case rel => exact ⟨k + 1, by omega, by go_num, by rw [hps.out, List.length_append]; go_num, by rw [hts.out]; show _ = Value.int IntKind.i64 ((tlen (os.take k) + l.length : Nat) : Int); go_num⟩
        case measure => simp [intOf]; omega
    · have hke : k = os.length := by omega
      subst hke
      rw [List.take_length] at hp ht ⊢
      clear hlt hk
      by_cases h0 : parts os = []
      · have HE : Hid (encode os = none) := by unfold encode; rw [if_pos h0]; rfl
        rw [h0]
        clear h0 hp
        go_wp2
        go_ret
        exact ⟨_, rfl, by rw [HE.out]; rfl, Below.refl _ _⟩
      have H0 : Hid (parts os ≠ []) := h0
      have hc1 : ((parts os).length : Int) ≠ 0 := by
        intro e
        exact h0 (List.eq_nil_of_length_eq_zero (by omega))
      have hc2 : (((parts os).length : Int) == 0) = false := beq_eq_false_iff_ne.2 hc1
      clear h0 hc1
      obtain ⟨i0, hi, hz0, hz1, hz2⟩ := info_parts info5
      have hmk : ∀ wx : World, (Instr.makeSlice 31 (.int .i64 0) (.int .i64 ((tlen os : Int) + ((parts os).length : Int) + 1))).run Try.prog wx = .ok (.slice (some ⟨wx.heap.size, 0, none⟩) 0 (tlen os + (parts os).length + 1)) (wx.alloc (.cells (madeCells #[.int .u8 0] (tlen os + (parts os).length + 1)) 5)) := fun wx => by
        have h := run_make (P := Try.prog) wx 31 5 i0 (.int .u8 0) Try.underlying31 hi hz0 .i64 .i64 0 ((tlen os : Int) + ((parts os).length : Int) + 1) (by omega) (by omega) (by rw [hz2]; omega) (by omega)
        rw [hz1, show ((tlen os : Int) + ((parts os).length : Int) + 1).toNat = tlen os + (parts os).length + 1 by omega, Nat.mul_one] at h
        exact h
      have HO0 : Hid (OutIs w.heap.size w (w.alloc (.cells (madeCells #[.int .u8 0] (tlen os + (parts os).length + 1)) 5)) (.slice (some ⟨w.heap.size, 0, none⟩) 0 (tlen os + (parts os).length + 1)) []) :=
        OutIs.made w _ (by unfold maxLen; omega)
      clear hi hz0 hz1 hz2
      have hw0 : Hid (wrote os 0 = [91]) := wrote_zero os
      go_wp2_with (at_builtin; refine wpList_append_bytes rfl _ _ rfl w.heap.size w _ [] rfl (HO0.out.alloc _) _ _ [91] rfl (one_new _ _ (by simp) 91 91 rfl) (by decide) ?_; intro v1 w1 ho1)
      clear HO0 hmk hc2
      have HO1 : Hid (OutIs w.heap.size w w1 v1 (wrote os 0)) := by rw [hw0.out]; exact ho1
      clear ho1 hw0
      go_loopw [6, 7, 8] (fun v p i wr => ∃ k : Nat, k ≤ os.length ∧ i = .int .i64 k ∧ p = .int .i64 (parts (os.take k)).length ∧ Hid (OutIs w.heap.size w wr v (wrote os k))) (fun _ _ i _ => os.length - (intOf i).toNat)
      case atStart => exact ⟨0, by omega, rfl, rfl, HO1⟩
      case round =>
        clear HO1
        obtain ⟨k, hk, rfl, rfl, HO⟩ := hrel
        have hpk := parts_len os k
        have hwl : (wrote os k).length + tlen os + 10 ≤ 100000000 := by
          have h1 := wrote_len os k
          have h2 := HL.out
          omega
        by_cases hlt : k < os.length
        · obtain ⟨b, off, rfl, _, hc⟩ := HR0.out (by intro e; rw [e] at hlt; simp at hlt)
          obtain ⟨v, hv, hb⟩ := hc k os[k] (List.getElem?_eq_getElem hlt)
          have hok : os[k]? = some os[k] := List.getElem?_eq_getElem hlt
          generalize os[k] = o at hb hok
          have hv' : wr.cell? ⟨b, off + k, none⟩ = some v := below_keeps HO.out.below b _ _ (Nat.zero_le _) hv
          have HV : Hid (w.cell? ⟨b, off + k, none⟩ = some v) := hv
          have hb' : Hid (HB 0 w v o) := hb
          have hbl : blen o ≤ tlen os := by
            have h1 := tlen_take_succ hok
            have h2 := tlen_take_le os (k + 1)
            omega
          clear hc hb hv
          cases o with
          | none =>
            cases hb'.out
            have hps : Hid (parts (os.take (k + 1)) = parts (os.take k)) := parts_none hok
            have hws : Hid (wrote os (k + 1) = wrote os k) := wrote_none hok
            clear hok hb'
            go_wp2
            go_roundw
            case rel => exact ⟨k + 1, by omega, by go_num, by rw [hps.out], by rw [hws.out]; exact HO⟩
            case measure => simp [intOf]; omega
          | some l =>
            obtain ⟨a, c, rfl, hcc⟩ := hb'.out
            have hbl' : l.length ≤ tlen os := hbl
            have hps : Hid (parts (os.take (k + 1)) = parts (os.take k) ++ [l]) := parts_some hok
            have HN : Hid (∀ W, Below w.heap.size w W → ∀ j x, l[j]? = some x → W.cell? (a.add j) = some (.int .u8 (x.toNat : Int))) := fun W hW j x hx => by
              obtain ⟨b', off', rfl, _, h'⟩ := hcc (by intro e; rw [e] at hx; simp at hx)
              rw [addr_add]
              exact below_keeps hW b' _ _ (Nat.zero_le _) (h' j x hx)
            clear hbl hb' hcc
            by_cases hp0 : parts (os.take k) = []
            · have hws : Hid (wrote os (k + 1) = wrote os k ++ l) := wrote_first hok hp0
              have hput : (parts (os.take k)).length ≤ 0 := by rw [hp0]; exact Nat.le_refl _
              clear hok hp0
              go_wp2_with (at_builtin; refine wpList_append_bytes rfl _ _ rfl w.heap.size w _ (wrote os k) rfl HO.out _ _ l rfl (HN.out _ HO.out.below) (by omega) ?_; intro v2 w2 ho2)
              go_roundw
              case rel => exact ⟨k + 1, by omega, by go_num, by rw [hps.out, List.length_append]; go_num, by rw [hws.out]; exact ho2⟩
              case measure => simp [intOf]; omega
            · have hws : Hid (wrote os (k + 1) = wrote os k ++ [44] ++ l) := wrote_next hok hp0
              have hput : 0 < (parts (os.take k)).length := by
                apply Nat.pos_of_ne_zero
                intro e
                exact hp0 (List.eq_nil_of_length_eq_zero e)
              clear hok hp0
              go_wp2_with (first
                | (at_builtin; refine wpList_append_bytes rfl (.tmp 52) (.tmp 53) rfl w.heap.size w _ (wrote os k) rfl (HO.out.alloc _) _ _ [44] rfl (one_new _ _ (by simp) 44 44 rfl) (by simp; omega) ?_; intro v2 w2 ho2; have hv2 := below_keeps ho2.below b _ _ (Nat.zero_le _) HV.out; have HO2 : Hid (OutIs w.heap.size w w2 v2 (wrote os k ++ [44])) := ho2; clear ho2)
                | (at_builtin; refine wpList_append_bytes rfl (.tmp 55) (.tmp 59) rfl w.heap.size w _ (wrote os k ++ [44]) rfl HO2.out _ _ l rfl (HN.out _ HO2.out.below) (by simp; omega) ?_; intro v3 w3 ho3))
              go_roundw
              case rel => exact ⟨k + 1, by omega, by go_num, by rw [hps.out, List.length_append]; go_num, by rw [hws.out]; exact ho3⟩
              case measure => simp [intOf]; omega
        · have hke : k = os.length := by omega
          subst hke
          have HE : Hid (encode os = some (wrote os os.length ++ [93])) := wrote_all H0.out
          go_wp2_with (at_builtin; refine wpList_append_bytes rfl _ _ rfl w.heap.size w _ (wrote os os.length) rfl (HO.out.alloc _) _ _ [93] rfl (one_new _ _ (by simp) 93 93 rfl) (by simp; omega) ?_; intro v2 w2 ho2)
          go_ret
          exact ⟨_, rfl, by rw [HE.out]; exact ho2.hb, ho2.below⟩

end Go.Proofs.Qxb6606018a.done
