/-
  Bytes that the call itself gathers: append, and the two helpers that put a uint16.
-/
import Derived.Test.YbulkcexyRead
import Derived.Test.YbulkcexyCPlain
import Derived.Laws.AppendOwnNone
namespace Go.Proofs.Ybulkcexy.Frame
open Go.RowKit
set_option linter.unusedVariables false

theorem info5 : (Yba.prog.info? 5).map (fun i => (i.zero, i.size, i.bytes)) = some (some (.int .u8 0), 1, 1) := by kernel_rfl

/-- THE SLICE VALUE v OWNS THE BYTES L, in blocks from B on. -/
def Own (w : World) (B : Nat) (v : Value) (L : List Int) : Prop := w.ownsRow B 5 1 v L.length (L.map (Value.int .u8))

theorem Own.alloc {w : World} {B : Nat} {v : Value} {L : List Int} (h : Own w B v L) (o : Obj) : Own (w.alloc o) B v L := World.ownsRow.alloc h o

/-- What the source of an append holds: nil; or the bytes M at its address. -/
def Src (w : World) (ao : Option Addr) (m c : Nat) (M : List Int) : Prop :=
  M.length = m ∧ (ao = none → m = 0 ∧ c = 0) ∧ ∀ ad, ao = some ad → ∀ j, j < m → w.cell? (ad.add j) = some (.int .u8 (M.getD j 0))

theorem Src.below {w w' : World} {ao : Option Addr} {m c : Nat} {M : List Int} (h : Src w ao m c M) (hb : Below w.heap.size w w') : Src w' ao m c M :=
  ⟨h.1, h.2.1, fun ad ha j hj => (hb.cell (World.block_lt_of_cell? _ _ (h.2.2 ad ha j hj))).trans (h.2.2 ad ha j hj)⟩

theorem append_bytes {w : World} {ops : Array Oper} {rest : List Oper} {o : Oper} {a : Act} {Q : Exit → Act → World → Prop} (hgd : o.guard = none) (s x : Operand)
    (ho : o.op = .call { callee := .builtin .append, args := #[s, x], argTypes := #[22, 22] }) (B : Nat) (v : Value) (L : List Int) (hs : a.eval s = v)
    (ao : Option Addr) (m c : Nat) (M : List Int) (hx : a.eval x = .slice ao m c) (hown : Own w B v L) (hsrc : Src w ao m c M) (hlen : L.length + m ≤ 1000000) (hB : B ≤ w.heap.size)
    (h : ∀ v' w', Hid (Own w' B v' (L ++ M)) → Hid (Below B w w') → wpList Yba.prog ops Q rest (a.put o.dst v') w') : wpList Yba.prog ops Q (o :: rest) a w := by
  obtain ⟨i0, hi, hz0, hz1, hz2⟩ := info_parts info5
  obtain ⟨hm, hnone, hc⟩ := hsrc
  cases ao with
  | none =>
    obtain ⟨rfl, rfl⟩ := hnone rfl
    obtain rfl : M = [] := List.eq_nil_of_length_eq_zero hm
    refine wpList_append_own_none hgd s x 22 ho B 5 i0 1 Yba.underlying22 hi v L.length (L.map (Value.int .u8)) hs hown hx ?_
    exact h v w (by rw [List.append_nil]; exact hown) (Below.refl _ _)
  | some ad =>
    refine wpList_append_own w hgd s x 22 ho B 5 i0 (.int .u8 0) 1 1 Yba.underlying22 hi hz0 hz1 hz2 rfl (by decide) v L.length (L.map (Value.int .u8)) hs hown ad m c (M.map (Value.int .u8)) hx (by simp [hm])
      ?_ (ints_oneCell _ _) (by unfold maxLen; omega) (by omega) hB ?_
    · intro j u hj
      have hjm : j < m := by
        have := (List.getElem?_eq_some_iff.1 hj).1
        simpa [hm] using this
      rw [hc ad rfl j hjm]
      rw [← hj]
      simp [List.getD, show j < M.length by omega]
    · intro v' w' hown' hg _
      refine h v' w' ?_ ?_
      · show w'.ownsRow B 5 1 v' (L ++ M).length ((L ++ M).map (Value.int .u8))
        rw [List.map_append, List.length_append, hm]
        exact hown'
      · refine (Below.refl B w).grown hg hB ?_
        intro k hk
        exact (World.ownsRow.lt hown k hk).1




theorem src_two (w : World) (x y : Int) : Src (w.alloc (.cells #[.int .u8 x, .int .u8 y] 5)) (some ⟨w.heap.size, 0, none⟩) 2 2 [x, y] := by
  refine ⟨rfl, (fun h => by cases h), fun ad ha j hj => ?_⟩
  obtain rfl := Option.some.inj ha
  match j, hj with
  | 0, _ => simp [Addr.add]
  | 1, _ => simp [Addr.add]

set_option maxHeartbeats 400000 in
theorem put_c (B : Nat) (v : Value) (L : List Int) (x : Int) (w : World) (hown : Own w B v L) (hx : 0 ≤ x ∧ x ≤ 65535) (hlen : L.length ≤ 900000) (hB : B ≤ w.heap.size) :
    Calls Yba.prog 14 #[v, .int .u16 x] w fun e w' => ∃ v', e = .returned v' ∧ Own w' B v' (L ++ w16 x) ∧ Below B w w' := by
  have HO : Hid (Own w B v L) := hown
  clear hown
  go_enter Yba.func14, Yba.ntmps14
  go_wp2_with (at_builtin; refine append_bytes rfl (.tmp 5) (.tmp 11) rfl B v L rfl _ _ _ (w16 x) rfl (HO.out.alloc _) ?_ (by omega) (by simp; omega) ?_)
  · exact src_two _ _ _
  intro v' w' hO hb
  go_wp2
  go_ret
  exact ⟨v', rfl, hO.out, ((Below.refl _ _).alloc hB _).trans hb.out⟩

set_option maxHeartbeats 400000 in
theorem put_b (B : Nat) (v : Value) (L : List Int) (x : Int) (w : World) (hown : Own w B v L) (hx : 0 ≤ x ∧ x ≤ 65535) (hlen : L.length ≤ 900000) (hB : B ≤ w.heap.size) :
    Calls Yba.prog 11 #[v, .int .u16 x] w fun e w' => ∃ v', e = .returned v' ∧ Own w' B v' (L ++ w16 x) ∧ Below B w w' := by
  have HO : Hid (Own w B v L) := hown
  clear hown
  go_enter Yba.func11, Yba.ntmps11
  go_wp2_with (at_builtin; refine append_bytes rfl (.tmp 5) (.tmp 11) rfl B v L rfl _ _ _ (w16 x) rfl (HO.out.alloc _) ?_ (by omega) (by simp; omega) ?_)
  · exact src_two _ _ _
  intro v' w' hO hb
  go_wp2
  go_ret
  exact ⟨v', rfl, hO.out, ((Below.refl _ _).alloc hB _).trans hb.out⟩

end Go.Proofs.Ybulkcexy.Frame
