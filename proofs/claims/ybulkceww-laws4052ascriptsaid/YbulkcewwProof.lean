/-
  The proof of 'Rows.LawS4052AScriptSaid': the argument opened, the law's walk, the row's step.
-/
import Derived.Test.YbulkcewwRows
import Derived.WalkKit
import Derived.ProofKit
import Derived.OpenShut
import Derived.ShutString
import Derived.ChangeOld
import Derived.ChangeSame
import Derived.Below
import Derived.Deep.Strs
import Derived.Test.YbulkcewwLaw
namespace Go.Proofs.Ybulkceww.lawS4052AScript
open Go.ChangeShapes Go.WideShapes Go.ChangeAt Go.RowKit
set_option linter.unusedVariables false

theorem own : ownKnob Yba.prog.godebug = none := by kernel_rfl
theorem laidOut : laidOutB Yba.prog = true := by kernel_rfl

theorem u8_bounds {n : Int} (h : (Lit.int .u8 n).wf = true) : 0 ≤ n ∧ n < 256 := by
  have := bounds_u8 h
  omega

/-- The slice of operations that came in. -/
theorem srcO {H : Type} {enc : TypeId × Value → H} {W : World} {a : Option Addr} {len cap : Nat} {d : DataW H} {p : List MemPlace}
    (h : DataW.Trod enc Yba.prog W 0 (fun _ => true) true 22 (.slice a len cap) d p) : ∃ x y, Pipe.SrcO W a len x y := by
  obtain ⟨fuel, hf⟩ := h
  have c33 : Yba.prog.cellsOf 33 = 2 := by kernel_rfl
  have c5 : Yba.prog.cellsOf 5 = 1 := by kernel_rfl
  rcases Deep.open_slice Yba.underlying22 hf with ⟨hcs, _⟩ | ⟨x, l, c, m, fu, D, Pl, hcs, _, hl, hm, hmm, _, hx⟩
  · simp [Value.cells] at hcs
    obtain ⟨rfl, rfl, rfl⟩ := hcs
    exact ⟨fun _ => 0, fun _ => 0, fun h => absurd h (by omega)⟩
  · simp [Value.cells] at hcs
    obtain ⟨rfl, rfl, rfl⟩ := hcs
    have hmc : len ≤ m := by simp at hmm; omega
    have key : ∀ i, i < len → ∃ q : Int × Int, W.cell? (x.add (i * 2)) = some (.int .u8 q.1) ∧ W.cell? (x.add (i * 2 + 1)) = some (.int .u8 q.2) ∧ 0 ≤ q.1 ∧ q.1 < 256 := by
      intro i hi
      obtain ⟨cs, hc, ht⟩ := hx i (by omega)
      rw [c33] at hc
      obtain ⟨_, hlen, hcell⟩ := World.cells?_some hc
      obtain ⟨y0, y1, fu', _, _, t0, t1⟩ := trod_struct2 Yba.underlying33 ht
      match cs, hlen with
      | [u0, u1], _ =>
        simp only [c5] at t0 t1
        obtain ⟨n0, e0, _, f0⟩ := DataW.trod_int Yba.underlying5 t0
        obtain ⟨n1, e1, _, f1⟩ := DataW.trod_int Yba.underlying5 t1
        simp at e0 e1
        subst e0 e1
        have k0 := hcell 0 (by omega)
        have k1 := hcell 1 (by omega)
        rw [Deep.add_add] at k0 k1
        exact ⟨(n0, n1), by simpa using k0, by simpa using k1, (u8_bounds f0).1, (u8_bounds f0).2⟩
    obtain ⟨q, hq⟩ := Deep.choose_lt key
    refine ⟨fun i => (q i).1, fun i => (q i).2, fun h0 => ?_⟩
    obtain ⟨b, off, spot⟩ := x
    have hspot : spot = none := by simpa [Addr.add] using World.cell?_spot (hq 0 (by omega)).1
    subst hspot
    refine ⟨b, off, rfl, fun j hj => ?_⟩
    obtain ⟨k0, k1, k2⟩ := hq j hj
    rw [Addr.add_lit] at k0 k1
    exact ⟨k0, k1, k2⟩

/-- THE WALK. -/
theorem walk {W : World} {a : Option Addr} {len cap : Nat} (h : ∃ x y, Pipe.SrcO W a len x y) :
    Calls Yba.prog 3 #[.slice a len cap] W fun e w' => e = .returned (.bool true) ∧ Below W.heap.size W w' := by
  obtain ⟨zo, zb, h0⟩ := h
  by_cases hl : 1024 < len
  · exact Pipe.law_long a len cap W hl
  · exact Pipe.law_main a len cap zo zb W h0 (by omega)

set_option maxRecDepth 100000 in
theorem lifted (os : Os) (started : os.Started) (H : Type) (enc : TypeId × Value → H) :
    ReturnsInHanded {} Yba.checked os 3 .any (Rows.lawS4052AScriptSpec.pre6 enc Yba.prog Yba.f3 Rows.lawS4052AScriptRow.domain false) (Rows.lawS4052AScriptSpec.post enc Yba.prog Yba.f3 false true false false) := by
  refine returnsInHanded_of_change (C := Yba.checked) own started (by kernel_rfl) Yba.func3
    (ChangeSpec.witness6 (enc := enc) (C := Yba.checked) false ⟨#[], #[.slice none 0 0], []⟩ 8 (by kernel_rfl) (by kernel_rfl) (by kernel_rfl) (by kernel_rfl)) ?_
  intro W base args ds gs before hval0 hW hcnd _
  have hval : ∀ (j : Nat) t v, Yba.f3.params[j]? = some t → args[j]? = some v → Value.okWide Yba.prog W .any base t v := hval0
  have hW' := hW
  obtain ⟨p, q, hA0, hV, rfl, hfz, hnd⟩ := hW
  have hA : DataW.TrodAll enc Yba.prog W 0 (fun _ => true) true Yba.f3.params.toList args.toList ds p := hA0
  rw [Yba.params3] at hA hval
  obtain ⟨v0, vs0, d0, ds0, p0, q0, hargs, rfl, rfl, h0, r0⟩ := trodAll_cons hA
  obtain ⟨rfl, rfl, rfl⟩ := trodAll_nil r0
  obtain rfl : args = #[v0] := by cases args; simp_all
  obtain ⟨rfl, rfl⟩ := trodVars_none hV
  obtain ⟨a0, len0, cap0, rfl⟩ := okWide_slice Yba.underlying22 (hval 0 22 v0 rfl rfl)
  have lt0 : ∀ x ∈ p0, x.block < W.heap.size := by obtain ⟨m, hm⟩ := h0; exact DataW.trod_lt m _ _ _ hm
  clear hA0 hval0
  refine (walk (srcO h0)).mono fun e W' ⟨he, bel⟩ => ?_
  subst he
  exact ⟨_, rfl, _, _, _, [], _, [], hW', trodAll_mk1 (shut_bool Yba.underlying4 _), (trodAll_cons_mk (Below.trod laidOut (by kernel_rfl) (of_decide_eq_true (by kernel_rfl)) h0 bel lt0) trodAll_mk0), rfl, bel.frame _, fun h => by cases h⟩

theorem over : Rows.lawS4052AScriptRow.holds Yba.pinned (OpenSpec.ofChange Rows.lawS4052AScriptSpec) :=
  OpenClaim.holds_of_wide 3 Yba.f3 rfl rfl rfl rfl rfl rfl rfl ⟨rfl, rfl, rfl, rfl, rfl⟩ rfl rfl rfl rfl rfl (by kernel_rfl) Yba.func3 (by kernel_rfl)
    (of_decide_eq_true (by kernel_rfl)) (by unfold Func.isWrapper; first | (rw [if_pos (by decide +kernel)]; kernel_rfl) | (rw [if_neg (by decide +kernel)]; exact ⟨rfl, rfl⟩))
    (fun os started H enc _ => lifted os started H enc)

/-- ████ THE STATEMENT ████ -/
theorem proved : Rows.LawS4052AScriptSaid := over
end Go.Proofs.Ybulkceww.lawS4052AScript
