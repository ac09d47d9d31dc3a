/-
  LawS4054BBuilt: what holds between its statements; the helper zzs4054bspecial; small laws.
-/
import Derived.Test.YbulkcexyZeros
namespace Go.Proofs.Ybulkcexy.Frame
open Go.RowKit
set_option linter.unusedVariables false
set_option maxRecDepth 100000

/-- Behind the entry: nothing that was there has turned; the three tag types lie in the first new block. -/
structure BInv (w wx : World) : Prop where
  below : Below w.heap.size w wx
  size : w.heap.size + 1 ≤ wx.heap.size
  held : ∀ i, i < 3 → wx.cell? ⟨w.heap.size, i, none⟩ = some (.int .u16 ([33024, 34984, 37120].getD i 0))

theorem BInv.next {w wx wy : World} (h : BInv w wx) (hb : Below (w.heap.size + 1) wx wy) : BInv w wy :=
  ⟨h.below.trans (hb.mono (by omega)), Nat.le_trans h.size hb.size, fun i hi => (hb.cell (p := ⟨w.heap.size, i, none⟩) (by show w.heap.size < w.heap.size + 1; omega)).trans (h.held i hi)⟩

/-- .. and the slice value v owns the bytes L. -/
def BSt (w wx : World) (v : Value) (L : List Int) : Prop := BInv w wx ∧ Own wx (w.heap.size + 1) v L
theorem BSt.put {w wx wy : World} {v v' : Value} {L L' : List Int} (h : BSt w wx v L) (hO : Own wy (w.heap.size + 1) v' L') (hb : Below (w.heap.size + 1) wx wy) : BSt w wy v' L' := ⟨h.1.next hb, hO⟩

theorem Own.shape {w : World} {B : Nat} {v : Value} {L : List Int} (h : Own w B v L) (hL : 0 < L.length) : ∃ g c, v = .slice (some ⟨g, 0, none⟩) L.length c ∧ B ≤ g ∧ L.length ≤ c ∧ c ≤ maxLen ∧ g < w.heap.size := by
  rcases h.2 with ⟨_, h0⟩ | ⟨g, cap, cur, hv, hb, hg, hn, hm, _⟩
  · omega
  · exact ⟨g, cap, hv, hb, hn, hm, (Array.getElem?_eq_some_iff.1 hg).1⟩
theorem Own.lies {w : World} {B g c : Nat} {L : List Int} (h : Own w B (.slice (some ⟨g, 0, none⟩) L.length c) L) : Lies w g L.length (zz L) := by
  intro i hi
  have := World.ownsRow.cellAt h i (by omega)
  rw [this]
  simp [zz, List.getD, hi]

theorem src_one (w : World) (x : Int) : Src (w.alloc (.cells #[.int .u8 x] 5)) (some ⟨w.heap.size, 0, none⟩) 1 1 [x] := by
  refine ⟨rfl, (fun h => by cases h), fun ad ha j hj => ?_⟩
  obtain rfl := Option.some.inj ha
  match j, hj with
  | 0, _ => simp [Addr.add]
theorem src_four (w : World) (x0 x1 x2 x3 : Int) : Src (w.alloc (.cells #[.int .u8 x0, .int .u8 x1, .int .u8 x2, .int .u8 x3] 5)) (some ⟨w.heap.size, 0, none⟩) 4 4 [x0, x1, x2, x3] := by
  refine ⟨rfl, (fun h => by cases h), fun ad ha j hj => ?_⟩
  obtain rfl := Option.some.inj ha
  match j, hj with
  | 0, _ => simp [Addr.add]
  | 1, _ => simp [Addr.add]
  | 2, _ => simp [Addr.add]
  | 3, _ => simp [Addr.add]
theorem src_six (w : World) (x0 x1 x2 x3 x4 x5 : Int) : Src (w.alloc (.cells #[.int .u8 x0, .int .u8 x1, .int .u8 x2, .int .u8 x3, .int .u8 x4, .int .u8 x5] 5)) (some ⟨w.heap.size, 0, none⟩) 6 6 [x0, x1, x2, x3, x4, x5] := by
  refine ⟨rfl, (fun h => by cases h), fun ad ha j hj => ?_⟩
  obtain rfl := Option.some.inj ha
  match j, hj with
  | 0, _ => simp [Addr.add]
  | 1, _ => simp [Addr.add]
  | 2, _ => simp [Addr.add]
  | 3, _ => simp [Addr.add]
  | 4, _ => simp [Addr.add]
  | 5, _ => simp [Addr.add]

/-- A slice of uint16 that came in. -/
def Src16 (w : World) (ao : Option Addr) (m : Nat) (M : List Int) : Prop :=
  M.length = m ∧ (0 < m → ∃ b o, ao = some ⟨b, o, none⟩ ∧ ∀ j, j < m → w.cell? ⟨b, o + j, none⟩ = some (.int .u16 (M.getD j 0))) ∧ ∀ j, 0 ≤ M.getD j 0 ∧ M.getD j 0 ≤ 65535

set_option maxHeartbeats 400000 in
theorem spc_any (t : Int) (w : World) : Calls Yba.prog 10 #[.int .u16 t] w fun e w' => e = .returned (.bool (spc t)) ∧ w' = w := by
  by_cases h1 : t = 33024
  · subst h1; go_enter Yba.func10, Yba.ntmps10; go_wp2; go_ret; exact ⟨rfl, rfl⟩
  by_cases h2 : t = 34984
  · subst h2; go_enter Yba.func10, Yba.ntmps10; go_wp2; go_ret; exact ⟨rfl, rfl⟩
  by_cases h3 : t = 37120
  · subst h3; go_enter Yba.func10, Yba.ntmps10; go_wp2; go_ret; exact ⟨rfl, rfl⟩
  by_cases h4 : t = 34916
  · subst h4; go_enter Yba.func10, Yba.ntmps10; go_wp2; go_ret; exact ⟨rfl, rfl⟩
  by_cases h5 : t = 34887
  · subst h5; go_enter Yba.func10, Yba.ntmps10; go_wp2; go_ret; exact ⟨rfl, rfl⟩
  by_cases h6 : t = 34888
  · subst h6; go_enter Yba.func10, Yba.ntmps10; go_wp2; go_ret; exact ⟨rfl, rfl⟩
  have HS : Hid (spc t = false) := (decide_eq_false (by omega) : spc t = false)
  go_enter Yba.func10, Yba.ntmps10
  go_wp2
  go_ret
  exact ⟨by rw [HS.out]; rfl, rfl⟩

theorem and_1 (x : Int) (hx : 0 ≤ x ∧ x ≤ 65535) : bits .and .u16 x 1 = x % 2 := by
  rw [and_bit16 0 x 1 (by decide) (by decide) hx]; omega
theorem and_2 (x : Int) (hx : 0 ≤ x ∧ x ≤ 65535) : bits .and .u16 x 2 = x / 2 % 2 * 2 := by
  rw [and_bit16 1 x 2 (by decide) (by decide) hx]; omega
theorem and_4 (x : Int) (hx : 0 ≤ x ∧ x ≤ 65535) : bits .and .u16 x 4 = x / 4 % 2 * 4 := by
  rw [and_bit16 2 x 4 (by decide) (by decide) hx]; omega
theorem and_8 (x : Int) (hx : 0 ≤ x ∧ x ≤ 65535) : bits .and .u16 x 8 = x / 8 % 2 * 8 := by
  rw [and_bit16 3 x 8 (by decide) (by decide) hx]; omega

theorem bb_tags (w : World) (ta qa : Option Addr) (tm tc qn qc : Nat) (kind typ labels : Int) (h : 256 < tm) (hm : tm ≤ maxLen) :
    Calls Yba.prog 4 #[.slice ta tm tc, .int .u8 kind, .int .u16 typ, .int .u8 labels, .slice qa qn qc] w fun e w' => e = .returned (.bool true) ∧ Below w.heap.size w w' := by
  unfold maxLen at hm
  go_enter Yba.func4, Yba.ntmps4
  go_wp2
  go_ret
  exact ⟨rfl, Below.refl _ _⟩
theorem bb_tail (w : World) (ta qa : Option Addr) (tm tc qn qc : Nat) (kind typ labels : Int) (h : tm ≤ 256) (hq : 4096 < qn) (hm : qn ≤ maxLen) :
    Calls Yba.prog 4 #[.slice ta tm tc, .int .u8 kind, .int .u16 typ, .int .u8 labels, .slice qa qn qc] w fun e w' => e = .returned (.bool true) ∧ Below w.heap.size w w' := by
  unfold maxLen at hm
  go_enter Yba.func4, Yba.ntmps4
  go_wp2
  go_ret
  exact ⟨rfl, Below.refl _ _⟩

end Go.Proofs.Ybulkcexy.Frame
