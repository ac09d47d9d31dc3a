/-
  The walks of LawS4059AExclusiveSums and startPlaces.
-/
import Derived.Test.YbulkcfaqRows
import Derived.WalkKit
import Derived.WalkLawsBesides
import Derived.WalkSpells
import Derived.Below
import Derived.Deep.LoopGhost
import Derived.Deep.OwnRows
import Derived.Laws.CopyOwn
namespace Go.Proofs.Ybulkcfaq.Sums
open Go.RowKit
set_option linter.unusedVariables false

theorem info3 : (Yba.prog.info? 3).map (fun i => (i.zero, i.size, i.bytes)) = some (some (.int .i64 0), 1, 8) := by kernel_rfl

/-- The wrapping sum of the first k numbers. -/
def ps (z : Nat → Int) : Nat → Int
  | 0 => 0
  | k + 1 => wrap64 (ps z k + z k)

/-- The row when the first k places are done. -/
def mid (z : Nat → Int) (k : Nat) : Nat → Value := fun j => .int .i64 (if j < k then ps z j else z j)

theorem mid_step {wr : World} {g n k : Nat} {z : Nat → Int} (h : wr.rowIs g 3 n (mid z k)) :
    (wr.setCell ⟨g, k, none⟩ (.int .i64 (ps z k))).rowIs g 3 n (mid z (k + 1)) := by
  refine (h.set k _).congr fun j hj => ?_
  unfold mid
  by_cases e : j = k
  · subst e; simp
  · rw [if_neg e]
    by_cases hlt : j < k
    · rw [if_pos hlt, if_pos (by omega)]
    · rw [if_neg hlt, if_neg (by omega)]

set_option maxHeartbeats 400000 in
theorem start_any (g n c : Nat) (z : Nat → Int) (w : World) (hn : n ≤ 1024) (hrow : w.rowIs g 3 n (mid z 0)) :
    Calls Yba.prog 5 #[.slice (some ⟨g, 0, none⟩) n c] w fun e w' => e = .returned (.tuple #[]) ∧ w'.rowIs g 3 n (mid z n) ∧ Below g w w' := by
  go_enter Yba.func5, Yba.ntmps5
  go_wp2
  go_loopg [2, 7] n (fun m t i wr => ∃ k : Nat, k ≤ n ∧ m = n - k ∧ i = .int .i64 k ∧ t = .int .i64 (ps z k) ∧ wr.rowIs g 3 n (mid z k) ∧ Below g w wr)
  case atStart => exact ⟨0, Nat.zero_le _, rfl, rfl, rfl, hrow, Below.refl _ _⟩
  case round =>
    obtain ⟨k, hk, rfl, rfl, rfl, hr, hb⟩ := hrel
    have hcell : k < n → wr.cell? ⟨g, k, none⟩ = some (.int .i64 (z k)) := fun h => by simpa [mid] using hr.cell h
    have hfr : wr.frozen? ⟨g, k, none⟩ = false := hr.frozen k
    go_wp2
    · have hlt : k < n := by assumption
      go_roundg (n - (k + 1))
      case measure => omega
      case rel => exact ⟨k + 1, by omega, rfl, by go_num, rfl, mid_step hr, hb.setCell (Nat.le_refl _) _⟩
    · have hkn : k = n := by omega
      subst hkn
      go_end0
      exact ⟨rfl, hr, hb⟩

end Go.Proofs.Ybulkcfaq.Sums
