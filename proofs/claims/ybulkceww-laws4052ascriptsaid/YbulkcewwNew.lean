/-
  LawS4052AScript: NewPipe.
-/
import Derived.Test.YbulkcewwMem
namespace Go.Proofs.Ybulkceww.Pipe
open Go.RowKit
set_option linter.unusedVariables false
set_option maxRecDepth 100000

def pAgg : Array Value := #[.int .i32 0, .int .u32 0, .int .i32 0, .int .u32 0, .slice none 0 0, .int .i64 0, .bool false]
def eAgg (P Y : Nat) : Array Value := #[.pointer (some ⟨P, 0, none⟩), .pointer (some ⟨Y, 0, none⟩), .nilIface, .string dS, .slice none 0 0]

theorem new_world {ρ : Nat → Nat} {w : World} (hf : Fresh ρ w) :
    ∃ ρ', Pip ρ' (((w.alloc (.cells pAgg 56)).alloc (.cells (eAgg w.heap.size (w.heap.size + 1 + 1)) 40)).alloc (.cells (eAgg w.heap.size (w.heap.size + 1)) 40)) w.heap.size 0 0 (.slice none 0 0) 0 false ∧
      EndS ρ' (((w.alloc (.cells pAgg 56)).alloc (.cells (eAgg w.heap.size (w.heap.size + 1 + 1)) 40)).alloc (.cells (eAgg w.heap.size (w.heap.size + 1)) 40)) 2 (w.heap.size + 1) w.heap.size (w.heap.size + 1 + 1) .nilIface (.string dS) (.slice none 0 0) ∧
      EndS ρ' (((w.alloc (.cells pAgg 56)).alloc (.cells (eAgg w.heap.size (w.heap.size + 1 + 1)) 40)).alloc (.cells (eAgg w.heap.size (w.heap.size + 1)) 40)) 3 (w.heap.size + 1 + 1) w.heap.size (w.heap.size + 1) .nilIface (.string dS) (.slice none 0 0) ∧
      Upd (fun _ => False) ρ w ρ' (((w.alloc (.cells pAgg 56)).alloc (.cells (eAgg w.heap.size (w.heap.size + 1 + 1)) 40)).alloc (.cells (eAgg w.heap.size (w.heap.size + 1)) 40)) := by
  obtain ⟨w1, hw1⟩ : ∃ w1, w1 = w.alloc (.cells pAgg 56) := ⟨_, rfl⟩
  have s1 : w1.heap.size = w.heap.size + 1 := by rw [hw1]; simp
  have r1 : w1.rowIs w.heap.size 56 7 (pc 0 0 (.slice none 0 0) 0 false) := by rw [hw1]; exact World.rowIs_alloc w pAgg 56 _ (fun i hi => by match i, hi with | 0, _ | 1, _ | 2, _ | 3, _ | 4, _ | 5, _ | 6, _ => rfl)
  have u1 : Upd (fun _ => False) ρ w (updR ρ w.heap.size 1) w1 := by rw [hw1]; exact (Upd.refl hf).allocR _ 1
  rw [← hw1]
  clear hw1
  obtain ⟨w2, hw2⟩ : ∃ w2, w2 = w1.alloc (.cells (eAgg w.heap.size (w.heap.size + 1 + 1)) 40) := ⟨_, rfl⟩
  have s2 : w2.heap.size = w.heap.size + 1 + 1 := by rw [hw2]; simp [s1]
  have r2 : w2.rowIs w1.heap.size 40 5 (ec w.heap.size (w.heap.size + 1 + 1) .nilIface (.string dS) (.slice none 0 0)) := by rw [hw2]; exact World.rowIs_alloc w1 (eAgg w.heap.size (w.heap.size + 1 + 1)) 40 _ (fun i hi => by match i, hi with | 0, _ | 1, _ | 2, _ | 3, _ | 4, _ => rfl)
  have r12 : w2.rowIs w.heap.size 56 7 (pc 0 0 (.slice none 0 0) 0 false) := by rw [hw2]; exact r1.alloc _
  have u2 : Upd (fun _ => False) ρ w (updR (updR ρ w.heap.size 1) w1.heap.size 2) w2 := by rw [hw2]; exact u1.allocR _ 2
  rw [← hw2]
  clear hw2
  refine ⟨updR (updR (updR ρ w.heap.size 1) w1.heap.size 2) w2.heap.size 3, ⟨?_, r12.alloc _⟩, ⟨?_, ?_⟩, ⟨?_, ?_⟩, u2.allocR _ 3⟩
  · simp [updR, s1, s2]; omega
  · simp [updR, s1, s2]
  · rw [s1] at r2; exact r2.alloc _
  · simp [updR, s2]
  · rw [← s2]; exact World.rowIs_alloc w2 (eAgg w.heap.size (w.heap.size + 1)) 40 _ (fun i hi => by match i, hi with | 0, _ | 1, _ | 2, _ | 3, _ | 4, _ => rfl)

set_option maxHeartbeats 1000000 in
theorem new_any (ρ : Nat → Nat) (w : World) (hf : Fresh ρ w) :
    Calls Yba.prog 4 #[] w fun e w' => ∃ ρ' P A B, e = .returned (.tuple #[.pointer (some ⟨A, 0, none⟩), .pointer (some ⟨B, 0, none⟩)]) ∧ Pip ρ' w' P 0 0 (.slice none 0 0) 0 false ∧ EndS ρ' w' 2 A P B .nilIface (.string dS) (.slice none 0 0) ∧ EndS ρ' w' 3 B P A .nilIface (.string dS) (.slice none 0 0) ∧ Upd (fun _ => False) ρ w ρ' w' := by
  go_enter Yba.func4, Yba.ntmps4
  go_wp2
  go_ret2
  obtain ⟨ρ', h1, h2, h3, h4⟩ := new_world hf
  exact ⟨ρ', _, _, _, rfl, h1, h2, h3, h4⟩
end Go.Proofs.Ybulkceww.Pipe
