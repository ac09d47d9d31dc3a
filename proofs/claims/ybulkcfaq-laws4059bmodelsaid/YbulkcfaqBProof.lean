/-
  The proof of 'Rows.LawS4059BModelSaid': the arguments opened, the law's walk, the row's step.
-/
import Derived.Test.YbulkcfaqRows
import Derived.WalkKit
import Derived.ProofKit
import Derived.OpenShut
import Derived.ShutString
import Derived.ChangeOld
import Derived.Below
import Derived.Deep.Strs
import Derived.Test.YbulkcfaqBLaw
namespace Go.Proofs.Ybulkcfaq.lawS4059BModel
open Go.ChangeShapes Go.WideShapes Go.ChangeAt Go.RowKit
set_option linter.unusedVariables false

theorem own : ownKnob Yba.prog.godebug = none := by kernel_rfl
theorem laidOut : laidOutB Yba.prog = true := by kernel_rfl

theorem u8_bounds {n : Int} (h : (Lit.int .u8 n).wf = true) : 0 ≤ n ∧ n < 256 := by
  have := bounds_u8 h
  omega

/-- A slice of int32 that came in. -/
theorem src32 {H : Type} {enc : TypeId × Value → H} {W : World} {a : Option Addr} {len cap : Nat} {d : DataW H} {p : List MemPlace}
    (h : DataW.Trod enc Yba.prog W 0 (fun _ => true) true 26 (.slice a len cap) d p) : ∃ z, Sets.Src32 W a len z := by
  obtain ⟨fuel, hf⟩ := h
  rcases open_ints Yba.underlying26 Yba.underlying21 (by kernel_rfl) hf with ⟨hcs, _⟩ | ⟨x, l, c, zs, hcs, _, hl, hm, hz, _, hcell, hwz⟩
  · simp [Value.cells] at hcs
    obtain ⟨rfl, rfl, rfl⟩ := hcs
    exact ⟨fun _ => 0, fun h => absurd h (by omega)⟩
  · simp [Value.cells] at hcs
    obtain ⟨rfl, rfl, rfl⟩ := hcs
    have hz' : zs.length = cap := by simpa using hz
    refine ⟨fun i => zs.getD i 0, fun h0 => ?_⟩
    obtain ⟨b, off, spot⟩ := x
    have hspot : spot = none := by simpa [Addr.add] using World.cell?_spot (hcell 0 (by omega))
    subst hspot
    refine ⟨b, off, rfl, fun j hj => ?_⟩
    have := hcell j (by omega)
    rw [Addr.add_lit] at this
    exact this

/-- The slice of nodes that came in. -/
theorem srcN {H : Type} {enc : TypeId × Value → H} {W : World} {a : Option Addr} {len cap : Nat} {d : DataW H} {p : List MemPlace}
    (h : DataW.Trod enc Yba.prog W 0 (fun _ => true) true 25 (.slice a len cap) d p) : ∃ x y z, Sets.SrcN W a len x y z := by
  obtain ⟨fuel, hf⟩ := h
  have c34 : Yba.prog.cellsOf 34 = 3 := by kernel_rfl
  have c5 : Yba.prog.cellsOf 5 = 1 := by kernel_rfl
  have c21 : Yba.prog.cellsOf 21 = 1 := by kernel_rfl
  rcases Deep.open_slice Yba.underlying25 hf with ⟨hcs, _⟩ | ⟨x, l, c, m, fu, D, Pl, hcs, _, hl, hm, hmm, _, hx⟩
  · simp [Value.cells] at hcs
    obtain ⟨rfl, rfl, rfl⟩ := hcs
    exact ⟨fun _ => 0, fun _ => 0, fun _ => 0, fun h => absurd h (by omega)⟩
  · simp [Value.cells] at hcs
    obtain ⟨rfl, rfl, rfl⟩ := hcs
    have hmc : len ≤ m := by simp at hmm; omega
    have key : ∀ i, i < len → ∃ q : Int × Int × Int, W.cell? (x.add (i * 3)) = some (.int .u8 q.1) ∧ W.cell? (x.add (i * 3 + 1)) = some (.int .u8 q.2.1) ∧ W.cell? (x.add (i * 3 + 2)) = some (.int .i32 q.2.2) ∧ 0 ≤ q.1 ∧ q.1 < 256 ∧ 0 ≤ q.2.1 ∧ q.2.1 < 256 := by
      intro i hi
      obtain ⟨cs, hc, ht⟩ := hx i (by omega)
      rw [c34] at hc
      obtain ⟨_, hlen, hcell⟩ := World.cells?_some hc
      obtain ⟨y0, y1, y2, fu', _, _, t0, t1, t2⟩ := Deep.trod_struct3 Yba.underlying34 ht
      match cs, hlen with
      | [u0, u1, u2], _ =>
        simp only [c5, c21] at t0 t1 t2
        obtain ⟨n0, e0, _, f0⟩ := DataW.trod_int Yba.underlying5 t0
        obtain ⟨n1, e1, _, f1⟩ := DataW.trod_int Yba.underlying5 t1
        obtain ⟨n2, e2, _, f2⟩ := DataW.trod_int Yba.underlying21 t2
        simp at e0 e1 e2
        subst e0 e1 e2
        have k0 := hcell 0 (by omega)
        have k1 := hcell 1 (by omega)
        have k2 := hcell 2 (by omega)
        rw [Deep.add_add] at k0 k1 k2
        refine ⟨(n0, n1, n2), by simpa using k0, by simpa using k1, by simpa using k2, (u8_bounds f0).1, (u8_bounds f0).2, (u8_bounds f1).1, (u8_bounds f1).2⟩
    obtain ⟨q, hq⟩ := Deep.choose_lt key
    refine ⟨fun i => (q i).1, fun i => (q i).2.1, fun i => (q i).2.2, fun h0 => ?_⟩
    obtain ⟨b, off, spot⟩ := x
    have hspot : spot = none := by simpa [Addr.add] using World.cell?_spot (hq 0 (by omega)).1
    subst hspot
    refine ⟨b, off, rfl, fun j hj => ?_⟩
    obtain ⟨k0, k1, k2, k3⟩ := hq j hj
    rw [Addr.add_lit] at k0 k1 k2
    exact ⟨k0, k1, k2, k3⟩

/-- THE WALK. -/
theorem walk {W : World} {a0 a1 a2 a3 : Option Addr} {l0 c0 l1 c1 l2 c2 l3 c3 : Nat} {c : Int} (w0 : ∃ x y z, Sets.SrcN W a0 l0 x y z) (w1 : ∃ z, Sets.Src32 W a1 l1 z) (w2 : ∃ z, Sets.Src32 W a2 l2 z) (w3 : ∃ z, Sets.Src32 W a3 l3 z) :
    Calls Yba.prog 4 #[.slice a0 l0 c0, .slice a1 l1 c1, .slice a2 l2 c2, .slice a3 l3 c3, .int .i64 c] W fun e w' => e = .returned (.bool true) ∧ Below W.heap.size W w' := by
  obtain ⟨zh, zx, zd, h0⟩ := w0
  obtain ⟨zs, h1⟩ := w1
  obtain ⟨zr, h2⟩ := w2
  obtain ⟨zf, h3⟩ := w3
  by_cases hl : 1024 < l0 ∨ 1024 < l1 ∨ 1024 < l2 ∨ 1024 < l3
  · exact Sets.bm_long a0 a1 a2 a3 l0 c0 l1 c1 l2 c2 l3 c3 c W hl
  · exact Sets.bm_main a0 a1 a2 a3 l0 c0 l1 c1 l2 c2 l3 c3 c zh zx zd zs zr zf W h0 h1 h2 h3 (by omega) (by omega) (by omega) (by omega)

set_option maxRecDepth 100000 in
theorem lifted (os : Os) (started : os.Started) (H : Type) (enc : TypeId × Value → H) :
    ReturnsInHanded {} Yba.checked os 4 .any (Rows.lawS4059BModelSpec.pre6 enc Yba.prog Yba.f4 Rows.lawS4059BModelRow.domain false) (Rows.lawS4059BModelSpec.post enc Yba.prog Yba.f4 false true false false) := by
  refine returnsInHanded_of_change (C := Yba.checked) own started (by kernel_rfl) Yba.func4
    (ChangeSpec.witness6 (enc := enc) (C := Yba.checked) false ⟨#[], #[.slice none 0 0, .slice none 0 0, .slice none 0 0, .slice none 0 0, .int .i64 0], []⟩ 8 (by kernel_rfl) (by kernel_rfl) (by kernel_rfl) (by kernel_rfl)) ?_
  intro W base args ds gs before hval0 hW hcnd _
  have hval : ∀ (j : Nat) t v, Yba.f4.params[j]? = some t → args[j]? = some v → Value.okWide Yba.prog W .any base t v := hval0
  have hW' := hW
  obtain ⟨p, q, hA0, hV, rfl, hfz, hnd⟩ := hW
  have hA : DataW.TrodAll enc Yba.prog W 0 (fun _ => true) true Yba.f4.params.toList args.toList ds p := hA0
  rw [Yba.params4] at hA hval
  obtain ⟨v0, vs0, d0, ds0, p0, q0, hargs, rfl, rfl, h0, r0⟩ := trodAll_cons hA
  obtain ⟨v1, vs1, d1, ds1, p1, q1, rfl, rfl, rfl, h1, r1⟩ := trodAll_cons r0
  obtain ⟨v2, vs2, d2, ds2, p2, q2, rfl, rfl, rfl, h2, r2⟩ := trodAll_cons r1
  obtain ⟨v3, vs3, d3, ds3, p3, q3, rfl, rfl, rfl, h3, r3⟩ := trodAll_cons r2
  obtain ⟨v4, vs4, d4, ds4, p4, q4, rfl, rfl, rfl, h4, r4⟩ := trodAll_cons r3
  obtain ⟨rfl, rfl, rfl⟩ := trodAll_nil r4
  obtain rfl : args = #[v0, v1, v2, v3, v4] := by cases args; simp_all
  obtain ⟨rfl, rfl⟩ := trodVars_none hV
  obtain ⟨a0, len0, cap0, rfl⟩ := okWide_slice Yba.underlying25 (hval 0 25 v0 rfl rfl)
  obtain ⟨a1, len1, cap1, rfl⟩ := okWide_slice Yba.underlying26 (hval 1 26 v1 rfl rfl)
  obtain ⟨a2, len2, cap2, rfl⟩ := okWide_slice Yba.underlying26 (hval 2 26 v2 rfl rfl)
  obtain ⟨a3, len3, cap3, rfl⟩ := okWide_slice Yba.underlying26 (hval 3 26 v3 rfl rfl)
  have lt0 : ∀ x ∈ p0, x.block < W.heap.size := by obtain ⟨m, hm⟩ := h0; exact DataW.trod_lt m _ _ _ hm
  have lt1 : ∀ x ∈ p1, x.block < W.heap.size := by obtain ⟨m, hm⟩ := h1; exact DataW.trod_lt m _ _ _ hm
  have lt2 : ∀ x ∈ p2, x.block < W.heap.size := by obtain ⟨m, hm⟩ := h2; exact DataW.trod_lt m _ _ _ hm
  have lt3 : ∀ x ∈ p3, x.block < W.heap.size := by obtain ⟨m, hm⟩ := h3; exact DataW.trod_lt m _ _ _ hm
  obtain ⟨a4, rfl, rfl, rfl, w4⟩ := open_int Yba.underlying3 (hval 4 3 v4 rfl rfl) h4
  clear hA0 hval0
  refine (walk (srcN h0) (src32 h1) (src32 h2) (src32 h3)).mono fun e W' ⟨he, bel⟩ => ?_
  subst he
  exact ⟨_, rfl, _, _, _, [], _, [], hW', trodAll_mk1 (shut_bool Yba.underlying4 _), (trodAll_cons_mk (Below.trod laidOut (by kernel_rfl) (of_decide_eq_true (by kernel_rfl)) h0 bel lt0) (trodAll_cons_mk (Below.trod laidOut (by kernel_rfl) (of_decide_eq_true (by kernel_rfl)) h1 bel lt1) (trodAll_cons_mk (Below.trod laidOut (by kernel_rfl) (of_decide_eq_true (by kernel_rfl)) h2 bel lt2) (trodAll_cons_mk (Below.trod laidOut (by kernel_rfl) (of_decide_eq_true (by kernel_rfl)) h3 bel lt3) (trodAll_cons_mk (shut_int Yba.underlying3 w4) trodAll_mk0))))), rfl, bel.frame _, fun h => by cases h⟩

theorem over : Rows.lawS4059BModelRow.holds Yba.pinned (OpenSpec.ofChange Rows.lawS4059BModelSpec) :=
  OpenClaim.holds_of_wide 4 Yba.f4 rfl rfl rfl rfl rfl rfl rfl ⟨rfl, rfl, rfl, rfl, rfl⟩ rfl rfl rfl rfl rfl (by kernel_rfl) Yba.func4 (by kernel_rfl)
    (of_decide_eq_true (by kernel_rfl)) (by unfold Func.isWrapper; first | (rw [if_pos (by decide +kernel)]; kernel_rfl) | (rw [if_neg (by decide +kernel)]; exact ⟨rfl, rfl⟩))
    (fun os started H enc _ => lifted os started H enc)

/-- ████ THE STATEMENT ████ -/
theorem proved : Rows.LawS4059BModelSaid := over
end Go.Proofs.Ybulkcfaq.lawS4059BModel
