/-
  Contracts for LawS4059BModel: slices.Equal and slices.Clone at []int32.
-/
import Derived.Test.YbulkcfaqRows
import Derived.WalkKit
import Derived.WalkLawsBesides
import Derived.WalkSpells
import Derived.Below
import Derived.BigQuiet
import Derived.Deep.QuietTactic
import Derived.Deep.LoopGhost
import Derived.Deep.OwnRows
import Derived.Deep.DeepCutAuto
import Derived.Deep.CutBlock
import Derived.Laws.CopyOwn
namespace Go.Proofs.Ybulkcfaq.Sets
open Go.RowKit
set_option linter.unusedVariables false
set_option maxRecDepth 100000

theorem info21 : (Yba.prog.info? 21).map (fun i => (i.zero, i.size, i.bytes)) = some (some (.int .i32 0), 1, 4) := by kernel_rfl

/-- n numbers of kind int32 lie in block g from its head on. -/
def Nums (w : World) (g n : Nat) (z : Nat → Int) : Prop := ∀ i, i < n → w.cell? ⟨g, i, none⟩ = some (.int .i32 (z i))
theorem Nums.below {w w' : World} {g n : Nat} {z : Nat → Int} (h : Nums w g n z) (hb : Below w.heap.size w w') : Nums w' g n z :=
  fun i hi => (hb.cell (World.block_lt_of_cell? _ _ (h i hi))).trans (h i hi)

set_option maxHeartbeats 400000 in
theorem equal_any (g1 g2 n c1 c2 : Nat) (z : Nat → Int) (w : World) (hn : n ≤ 100000) (h1 : Nums w g1 n z) (h2 : Nums w g2 n z) :
    Calls Yba.prog 8 #[.slice (some ⟨g1, 0, none⟩) n c1, .slice (some ⟨g2, 0, none⟩) n c2] w fun e w' => e = .returned (.bool true) ∧ Below w.heap.size w w' := by
  have H1 : Hid (Nums w g1 n z) := h1
  have H2 : Hid (Nums w g2 n z) := h2
  clear h1 h2
  go_enter Yba.func8, Yba.ntmps8
  go_wp2
  go_loopg [13] n (fun gk i wr => ∃ k : Nat, k ≤ n ∧ gk = n - k ∧ i = .int .i64 k ∧ Hid (Below w.heap.size w wr))
  case atStart => exact ⟨0, Nat.zero_le _, rfl, rfl, Below.refl _ _⟩
  case round =>
    obtain ⟨k, hk, rfl, rfl, HB⟩ := hrel
    by_cases hlt : k < n
    · have c1 := H1.out.below HB.out k hlt
      have c2 := H2.out.below HB.out k hlt
      have hi1 : (k : Int) < (n : Int) := by omega
      have hi0 : (0 : Int) ≤ (k : Int) := by omega
      go_wp2
      go_quiet (fail)
      go_wp2
      go_roundg (n - (k + 1))
      case measure => omega
      case rel => exact ⟨k + 1, by omega, rfl, by go_num, below_drewN HB.out _⟩
    · go_wp2
      go_ret
      exact ⟨rfl, HB.out⟩

/-- The slice value v owns the numbers L, in blocks from B on. -/
def Own (w : World) (B : Nat) (v : Value) (L : List Int) : Prop := w.ownsRow B 21 1 v L.length (L.map (Value.int .i32))

set_option maxHeartbeats 400000 in
theorem clone_any (g n c : Nat) (L : List Int) (w : World) (hn : n ≤ 100000) (hL : L.length = n) (h : Nums w g n (fun i => L.getD i 0)) :
    Calls Yba.prog 6 #[.slice (some ⟨g, 0, none⟩) n c] w fun e w' => ∃ v, e = .returned v ∧ Own w' w.heap.size v L ∧ ¬ v = .slice none 0 0 ∧ Below w.heap.size w w' := by
  have H1 : Hid (Nums w g n (fun i => L.getD i 0)) := h
  have hnil := fun (w : World) (a : Option Addr) (n c n' c' : Nat) => Lib.run_eql_slice_nil (P := Yba.prog) w 26 21 a n c n' c' Yba.underlying26
  clear h
  obtain ⟨i0, hi, hz0, hz1, hz2⟩ := info_parts info21
  go_enter Yba.func6, Yba.ntmps6
  go_wp2_with (at_builtin; refine wpList_append_own _ rfl (.tmp 5) (.tmp 6) 26 rfl w.heap.size 21 i0 (.int .i32 0) 1 4 Yba.underlying26 hi hz0 hz1 hz2 rfl (by decide) _ 0 [] rfl ?_ ⟨g, 0, none⟩ n c (L.map (Value.int .i32)) rfl (by simp [hL]) ?_ (ints_oneCell _ _) (by unfold maxLen; omega) (by omega) ?_ ?_)
  · exact World.ownsRow_made w #[] 0 (Nat.le_refl _) (by unfold maxLen; omega) rfl
  · intro j u hj
    have hjL : j < L.length := by
      have := (List.getElem?_eq_some_iff.1 hj).1
      simpa using this
    have h1 := H1.out j (by omega)
    rw [Addr.add_lit, Nat.zero_add]
    have h2 := (World.cell?_alloc_lt w (.cells #[] 21) _ (World.block_lt_of_cell? _ _ h1)).trans h1
    rw [h2, ← hj]
    simp [List.getD, hjL]
  · simp
  intro v' w' hown hg hne
  have HO : Hid (Own w' w.heap.size v' L) := by
    show w'.ownsRow w.heap.size 21 1 v' L.length (L.map (Value.int .i32))
    rw [hL]; exact hown
  have HN : Hid (¬ v' = .slice none 0 0) := hne
  have HB : Hid (Below w.heap.size w w') := by
    refine ((Below.refl w.heap.size w).alloc (Nat.le_refl _) (.cells #[] 21)).grown hg (by simp) ?_
    intro k hk
    simp [Value.ownBlock] at hk
    omega
  clear hown hg hne
  go_wp2
  go_ret
  exact ⟨v', rfl, HO.out, HN.out, HB.out⟩

end Go.Proofs.Ybulkcfaq.Sets
