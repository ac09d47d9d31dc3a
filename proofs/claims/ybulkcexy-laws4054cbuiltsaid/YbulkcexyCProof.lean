/-
  The proof of 'Rows.LawS4054CBuiltSaid'.
-/
import Derived.Test.YbulkcexyCLaw
import Derived.Test.YbulkcexyCOpen
import Derived.ShutString
import Derived.ChangeOld
namespace Go.Proofs.Ybulkcexy.lawS4054CBuilt
open Go.ChangeShapes Go.WideShapes Go.ChangeAt Go.RowKit
set_option linter.unusedVariables false

theorem own : ownKnob Yba.prog.godebug = none := by kernel_rfl
theorem laidOut : laidOutB Yba.prog = true := by kernel_rfl

set_option maxRecDepth 100000 in
theorem lifted (os : Os) (started : os.Started) (H : Type) (enc : TypeId × Value → H) :
    ReturnsInHanded {} Yba.checked os 6 .any (Rows.lawS4054CBuiltSpec.pre6 enc Yba.prog Yba.f6 Rows.lawS4054CBuiltRow.domain false) (Rows.lawS4054CBuiltSpec.post enc Yba.prog Yba.f6 false true false false) := by
  refine returnsInHanded_of_change (C := Yba.checked) own started (by kernel_rfl) Yba.func6
    (ChangeSpec.witness6 (enc := enc) (C := Yba.checked) false ⟨#[], #[.agg #[.int .u8 0, .bool false, .bool false, .bool false, .bool false, .int .u16 0, .int .u16 0, .int .u16 0, .int .u16 0, .int .u16 0, .int .u16 0, .slice none 0 0, .bool false, .bool false, .bool false, .slice none 0 0]], []⟩ 8 (by kernel_rfl) (by kernel_rfl) (by kernel_rfl) (by kernel_rfl)) ?_
  intro W base args ds gs before hval0 hW hcnd _
  have hval : ∀ (j : Nat) t v, Yba.f6.params[j]? = some t → args[j]? = some v → Value.okWide Yba.prog W .any base t v := hval0
  have hW' := hW
  obtain ⟨p, q, hA0, hV, rfl, hfz, hnd⟩ := hW
  have hA : DataW.TrodAll enc Yba.prog W 0 (fun _ => true) true Yba.f6.params.toList args.toList ds p := hA0
  rw [Yba.params6] at hA hval
  obtain ⟨v0, vs0, d0, ds0, p0, q0, hargs, rfl, rfl, h0, r0⟩ := trodAll_cons hA
  obtain ⟨rfl, rfl, rfl⟩ := trodAll_nil r0
  obtain rfl : args = #[v0] := by cases args; simp_all
  obtain ⟨rfl, rfl⟩ := trodVars_none hV
  have k0 := h0
  have lt0 : ∀ x ∈ p0, x.block < W.heap.size := by obtain ⟨m, hm⟩ := k0; exact DataW.trod_lt m _ _ _ hm
  obtain ⟨ver, res, ctl, len, seq, off, adr, cmp, v6, ln, tid, sid, ns, nr, pa, qa, pn, pc, qn, qc, P, Q, rfl, hver, hres, hln, htid, hsid, hns, hnr, hP, hQ, bP, bQ⟩ := Frame.open_msg (hval 0 40 v0 rfl rfl) h0
  clear hA0 hval0
  have walk : Calls Yba.prog 6 #[.agg #[.int .u8 ver, .bool ctl, .bool len, .bool seq, .bool off, .int .u16 res, .int .u16 ln, .int .u16 tid, .int .u16 sid, .int .u16 ns, .int .u16 nr, .slice pa pn pc, .bool adr, .bool cmp, .bool v6, .slice qa qn qc]] W fun e w' => e = .returned (.bool true) ∧ Below W.heap.size W w' := by
    by_cases h1 : pn ≤ 1024
    · by_cases h2 : qn ≤ 1024
      · exact Frame.c_main W ver res ctl len seq off adr cmp v6 ln tid sid ns nr pa qa pn pc qn qc P Q hver hres hln htid hsid hns hnr h1 h2 hP hQ bP bQ
      · exact Frame.c_pay [] W pa qa pn pc qn qc h1 (by omega) _ _ _ _ _ _ _ _ _ _ _ _ _ _
    · exact Frame.c_pad [] W pa pn pc (by omega) _ _ _ _ _ _ _ _ _ _ _ _ _ _ _
  refine walk.mono fun e W' ⟨he, bel⟩ => ?_
  subst he
  exact ⟨_, rfl, _, _, _, [], _, [], hW', trodAll_mk1 (shut_bool Yba.underlying4 _), (trodAll_cons_mk (Below.trod laidOut (by kernel_rfl) (of_decide_eq_true (by kernel_rfl)) k0 bel lt0) trodAll_mk0), rfl, bel.frame _, fun h => by cases h⟩

theorem over : Rows.lawS4054CBuiltRow.holds Yba.pinned (OpenSpec.ofChange Rows.lawS4054CBuiltSpec) :=
  OpenClaim.holds_of_wide 6 Yba.f6 rfl rfl rfl rfl rfl rfl rfl ⟨rfl, rfl, rfl, rfl, rfl⟩ rfl rfl rfl rfl rfl (by kernel_rfl) Yba.func6 (by kernel_rfl)
    (of_decide_eq_true (by kernel_rfl)) (by unfold Func.isWrapper; first | (rw [if_pos (by decide +kernel)]; kernel_rfl) | (rw [if_neg (by decide +kernel)]; exact ⟨rfl, rfl⟩))
    (fun os started H enc _ => lifted os started H enc)

/-- THE STATEMENT -/
theorem proved : Rows.LawS4054CBuiltSaid := over
end Go.Proofs.Ybulkcexy.lawS4054CBuilt
