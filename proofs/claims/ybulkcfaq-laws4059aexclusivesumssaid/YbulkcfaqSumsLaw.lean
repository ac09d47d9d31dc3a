/-
  The walk of LawS4059AExclusiveSums.
-/
import Derived.Test.YbulkcfaqSumsWalks
namespace Go.Proofs.Ybulkcfaq.Sums
open Go.RowKit
set_option linter.unusedVariables false

theorem law_big (a : Option Addr) (n c : Nat) (w : World) (hn : 1024 < n) (hm : n ≤ maxLen) :
    Calls Yba.prog 3 #[.slice a n c] w fun e w' => e = .returned (.bool true) ∧ Below w.heap.size w w' := by
  unfold maxLen at hm
  go_enter Yba.func3, Yba.ntmps3
  go_wp2
  go_ret
  exact ⟨rfl, Below.refl _ _⟩

theorem start_nil (w : World) :
    Calls Yba.prog 5 #[.slice none 0 0] w fun e w' => e = .returned (.tuple #[]) ∧ w' = w := by
  go_enter Yba.func5, Yba.ntmps5
  go_wp2
  refine wp_loop_rounds 1 ?_; rw [rounds_succ]; go_wp2
  go_end0
  exact ⟨rfl, rfl⟩

set_option maxHeartbeats 400000 in
theorem law_nil (w : World) :
    Calls Yba.prog 3 #[.slice none 0 0] w fun e w' => e = .returned (.bool true) ∧ Below w.heap.size w w' := by
  have hnil := fun (w : World) (a : Option Addr) (n c n' c' : Nat) => Lib.run_eql_slice_nil (P := Yba.prog) w 22 3 a n c n' c' Yba.underlying22
  go_enter Yba.func3, Yba.ntmps3
  go_wp2_with (go_at_call 5; refine (start_nil _).mono ?_; rintro e w' ⟨rfl, rfl⟩)
  refine wp_loop_rounds 1 ?_; rw [rounds_succ]; go_wp2
  go_ret
  exact ⟨rfl, Below.refl _ _⟩

def cur (n : Nat) : List Value := List.replicate n (.int .i64 0)
def srcs (z : Nat → Int) (n : Nat) : List Value := (List.range n).map fun i => .int .i64 (z i)
theorem srcs_len (z : Nat → Int) (n : Nat) : (srcs z n).length = n := by simp [srcs]
theorem srcs_at (z : Nat → Int) (n i : Nat) (h : i < n) : (srcs z n)[i]? = some (.int .i64 (z i)) := by simp [srcs, h]
theorem made_cur (w : World) (n : Nat) : (w.alloc (.cells (madeCells #[.int .i64 0] n) 3)).heap[w.heap.size]? = some (.cells (cur n).toArray 3 (0, 0)) := by
  obtain ⟨c, hb, hn, hc⟩ := World.rowIs_made w (.int .i64 0) n 3
  rw [hb]
  have : c = (cur n).toArray := by
    apply Array.ext_getElem?
    intro i
    by_cases h : i < n
    · rw [hc i h]; simp [cur, h]
    · rw [Array.getElem?_eq_none (by omega)]; simp [cur]; omega
  rw [this]

theorem row_of_splice {w' : World} {g n : Nat} {z : Nat → Int} (h : w'.heap[g]? = some (.cells (splice (cur n) 0 (srcs z n)).toArray 3 (0, 0))) : w'.rowIs g 3 n (mid z 0) := by
  have e : splice (cur n) 0 (srcs z n) = srcs z n := by
    simp [splice, srcs_len, cur]
  rw [e] at h
  exact ⟨_, h, by simp [srcs_len], fun i hi => by simp [srcs, hi, mid]⟩

set_option maxHeartbeats 800000 in
theorem law_some (xa : Addr) (n c : Nat) (z : Nat → Int) (w : World) (hn : n ≤ 1024) (hcell : ∀ i, i < n → w.cell? (xa.add i) = some (.int .i64 (z i))) :
    Calls Yba.prog 3 #[.slice (some xa) n c] w fun e w' => e = .returned (.bool true) ∧ Below w.heap.size w w' := by
  have hnil := fun (w : World) (a : Option Addr) (n c n' c' : Nat) => Lib.run_eql_slice_nil (P := Yba.prog) w 22 3 a n c n' c' Yba.underlying22
  have hmk := run_make_row' (P := Yba.prog) 22 3 (.int .i64 0) 8 Yba.underlying22 info3 rfl .i64 .i64 n (by omega) (by omega)
  have HC : Hid (∀ i, i < n → w.cell? (xa.add i) = some (.int .i64 (z i))) := hcell
  clear hcell
  go_enter Yba.func3, Yba.ntmps3
  go_wp2_with (refine wpList_copy_splice rfl (.tmp 15) (.tmp 16) 22 22 rfl 3 Yba.underlying22 (by kernel_rfl) _ _ _ _ _ _ rfl rfl w.heap.size 0 (cur n) 3 (made_cur w n) (srcs z n) ?_ ?_ ?_ ?_ w.heap.size w ?_ (Nat.le_refl _) ?_)
  · simp [srcs_len]
  · intro _ j v hj
    by_cases h : j < n
    · rw [srcs_at z n j h] at hj
      injection hj with hj
      subst hj
      exact World.cell?_alloc_lt _ _ _ (World.block_lt_of_cell? _ _ (HC.out j h)) |>.trans (HC.out j h)
    · rw [List.getElem?_eq_none (by rw [srcs_len]; omega)] at hj
      cases hj
  · simp [srcs_len, cur]
  · intro v hv
    obtain ⟨_, _, rfl⟩ := List.mem_map.1 hv
    rfl
  · exact (Below.refl _ _).alloc (Nat.le_refl _) _
  intro w1 hsp hb1
  have hr1 := row_of_splice hsp.out
  have HR : Hid (w1.rowIs w.heap.size 3 n (mid z 0)) := hr1
  clear hsp hr1 hmk
  go_wp2_with (go_at_call 5; refine (start_any _ n _ z _ hn HR.out).mono ?_; rintro e w2 ⟨rfl, hr2, hb2⟩)
  have HR2 : Hid (w2.rowIs w.heap.size 3 n (mid z n)) := hr2
  have HB : Hid (Below w.heap.size w w2) := hb1.trans hb2
  clear hr2 hb1 hb2 HR
  go_loopg [4] n (fun m i wr => wr = w2 ∧ ∃ k : Nat, k ≤ n ∧ m = n - k ∧ i = .int .i64 k)
  case atStart => exact ⟨rfl, 0, Nat.zero_le _, rfl, rfl⟩
  case round =>
    obtain ⟨rfl, k, hk, rfl, rfl⟩ := hrel
    by_cases hlt : k < n
    · go_wp2
      go_loopg [5, 6] k (fun m s i wi => wi = wr ∧ ∃ j : Nat, j ≤ k ∧ m = k - j ∧ i = .int .i64 j ∧ s = .int .i64 (ps z j))
      case atStart => exact ⟨rfl, 0, Nat.zero_le _, rfl, rfl, rfl⟩
      case round =>
        obtain ⟨rfl, j, hj, rfl, rfl, rfl⟩ := hrel
        have hc1 : j < n → wr.cell? (xa.add j) = some (.int .i64 (z j)) := fun h => (HB.out.cell (World.block_lt_of_cell? _ _ (HC.out j h))).trans (HC.out j h)
        have hc2 : wr.cell? ⟨w.heap.size, k, none⟩ = some (.int .i64 (ps z k)) := by
          have := HR2.out.cell hlt
          simpa [mid, hlt] using this
        by_cases hjk : j < k
        · have hc3 := hc1 (by omega)
          clear hc1 hc2
          go_wp2
          go_roundg (k - (j + 1))
          case measure => omega
          case rel => exact ⟨rfl, j + 1, by omega, rfl, by go_num, rfl⟩
        · obtain rfl : j = k := by omega
          clear hc1
          go_wp2
          go_roundg (n - (j + 1))
          case measure => omega
          case rel => exact ⟨rfl, j + 1, by omega, rfl, by go_num⟩
    · go_wp2
      go_ret
      exact ⟨rfl, HB.out⟩

end Go.Proofs.Ybulkcfaq.Sums
