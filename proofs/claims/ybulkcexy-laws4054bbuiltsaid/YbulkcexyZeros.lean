/-
  'f = append(f, make([]byte, 12)...)', f the call's own.
-/
import Derived.Test.YbulkcexyAppend
import Derived.Test.YbulkcexyBPlain
namespace Go.Proofs.Ybulkcexy.Frame
open Go.RowKit
set_option linter.unusedVariables false


theorem zc12 : Builtin.zeroCells (Value.int .u8 0).cells 12 = (z12.map (Value.int .u8)).toArray := by kernel_rfl
theorem z12_one : ∀ u ∈ z12.map (Value.int .u8), u.oneCell' = true := ints_oneCell _ _

theorem run_append_z12 (w : World) (B : Nat) (ty : TypeId) (v : Value) (L : List Int) (hown : Own w B v L) (hL : 0 < L.length) (hlen : L.length ≤ 900000) (hB : B ≤ w.heap.size) :
    ∃ v' w', (Builtin.append_ #[22, 3] ty #[v, .int .i64 12]).run Yba.prog w = .ok v' w' ∧ Own w' B v' (L ++ z12) ∧ w.grownBy w' v.ownBlock := by
  obtain ⟨i0, hi, hz0, hz1, hz2⟩ := info_parts info5
  have hw : IntKind.i64.wrap 12 = 12 := by rw [IntKind.wrap_i64]; rfl
  have hxl : ((L ++ z12).map (Value.int .u8)).length = (L ++ z12).length * 1 := by simp
  have hl12 : (L ++ z12).length = L.length + 12 := by simp [z12]
  rcases hown.2 with ⟨_, h0⟩ | ⟨g, cap, cur, rfl, hbg, hg, hnc, hcm, hcs, htake⟩
  · omega
  · by_cases hroom : L.length + 12 ≤ cap
    · have hst := run_storeCells_at Yba.prog g (L.length * 1) 5 (z12.map (Value.int .u8)) 0 cur w hg (by simp [z12]; omega) z12_one
      simp only [Nat.add_zero, Nat.mul_one] at hst
      have hr : (Builtin.append_ #[22, 3] ty #[.slice (some ⟨g, 0, none⟩) L.length cap, .int .i64 12]).run Yba.prog w = .ok (.slice (some ⟨g, 0, none⟩) (L.length + 12) cap) (w.setRow g (cur.toList.take L.length ++ z12.map (Value.int .u8) ++ cur.toList.drop (L.length + (z12.map (Value.int .u8)).length)).toArray) := by
        simp [Builtin.append_, run_underlying Yba.underlying22, run_underlying Yba.underlying3, sizeOf, typeInfo, zeroValue, hi, hz0, hz1, hz2, hw, hroom, asInt, asIntOf, zc12, Addr.add_lit, hst]
      refine ⟨_, _, hr, ⟨hxl, .inr ⟨g, cap, _, by rw [hl12], hbg, setRow_heap w g cur _ 5 _ hg, by omega, hcm, ?_, ?_⟩⟩, ⟨rfl, rfl, rfl, by simp, fun k _ hk => setRow_other w g k _ (fun e => hk (by simp [Value.ownBlock, e]))⟩⟩
      · simp [z12]; omega
      · simp only [Nat.mul_one] at htake ⊢
        rw [htake, hl12, ← List.map_append]
        exact List.take_left' (by rw [List.length_map, hl12])
    · have holds : ∀ j u, (L.map (Value.int .u8))[j]? = some u → w.cell? ((⟨g, 0, none⟩ : Addr).add j) = some u := World.ownsRow.cells hown (g := g) rfl
      have hge := grownCap_ge w (L.length + 12) cap 5
      have hcm2 : grownCap w (L.length + 12) cap 5 ≤ maxLen := grownCap_le_maxLen w (L.length + 12) cap 5 (by unfold maxLen; omega)
      have hfo := run_firstCells_some (P := Yba.prog) w.drew 1 L.length ⟨g, 0, none⟩ L.length cap (L.map (Value.int .u8)) (by simp) (by simpa using holds)
      have h63' : ¬ (9223372036854775807 < ((L.length : Int) + 12)) := by omega
      have h48' : ¬ (281474976710656 < Builtin.nextslicecap (L.length + 12) cap) := by
        have := growslice_fits (need := L.length + 12) (old := cap) (bytes := 1) (by omega) (by omega)
        omega
      have hr : (Builtin.append_ #[22, 3] ty #[.slice (some ⟨g, 0, none⟩) L.length cap, .int .i64 12]).run Yba.prog w = .ok (.slice (some ⟨w.heap.size, 0, none⟩) (L.length + 12) (grownCap w (L.length + 12) cap 5))
          (w.drew.alloc (.cells ((L.map (Value.int .u8)).toArray ++ ((z12.map (Value.int .u8)).toArray ++ Builtin.zeroCells (Value.int .u8 0).cells (grownCap w (L.length + 12) cap 5 - (L.length + 12)))) 5)) := by
        simp [Builtin.append_, run_underlying Yba.underlying22, run_underlying Yba.underlying3, sizeOf, typeInfo, zeroValue, hi, hz0, hz1, hz2, hw, hroom, h48', asInt, asIntOf, zc12, Question.forced, hfo, newRow, grownCap]
        intro h; exfalso; omega
      refine ⟨_, _, hr, ⟨hxl, .inr ⟨w.heap.size, _, _, by rw [hl12], hB, heap_alloc_new w.drew _, by omega, hcm2, ?_, ?_⟩⟩, ⟨rfl, rfl, rfl, by simp, fun k hk _ => Below.heap_alloc w.drew _ k hk⟩⟩
      · simp [size_zeroCells, z12, Value.cells]; omega
      · simp only [Nat.mul_one, Array.toList_append]
        rw [hl12, ← List.append_assoc, ← List.map_append]
        exact List.take_left' (by rw [List.length_map, hl12])

theorem append_z12 {w : World} {ops : Array Oper} {rest : List Oper} {o : Oper} {a : Act} {Q : Exit → Act → World → Prop} (hgd : o.guard = none) (s : Operand)
    (ho : o.op = .call { callee := .builtin .append, args := #[s, .const (.int .i64 12)], argTypes := #[22, 3] }) (B : Nat) (v : Value) (L : List Int) (hs : a.eval s = v)
    (hown : Own w B v L) (hL : 0 < L.length) (hlen : L.length ≤ 900000) (hB : B ≤ w.heap.size)
    (h : ∀ v' w', Hid (Own w' B v' (L ++ z12)) → Hid (Below B w w') → wpList Yba.prog ops Q rest (a.put o.dst v') w') : wpList Yba.prog ops Q (o :: rest) a w := by
  refine wpList_plain hgd fun K hK => ?_
  obtain ⟨v', w', hr, h2, h3⟩ := run_append_z12 w B o.type v L hown hL hlen hB
  have he : a.eval (.const (.int .i64 12)) = .int .i64 12 := rfl
  unfold Oper.wp execOp
  simp only [ho, resolve, invoke, builtin, Sem.run_bind, Sem.run_pure, Result.andThen_ok, List.map_toArray, List.map_cons, List.map_nil, hs, he, hr]
  exact hK _ _ (h v' w' h2 ((Below.refl B w).grown h3 hB (fun k hk => (World.ownsRow.lt hown k hk).1)))

end Go.Proofs.Ybulkcexy.Frame
