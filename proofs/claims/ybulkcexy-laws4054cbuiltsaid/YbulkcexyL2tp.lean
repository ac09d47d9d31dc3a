/-
  The contract of l2tp.
-/
import Derived.Test.YbulkcexyRead
namespace Go.Proofs.Ybulkcexy.Frame
open Go.RowKit
set_option linter.unusedVariables false

set_option maxHeartbeats 1000000 in
theorem l2tp_any (g n c : Nat) (z : Nat → Int) (w : World) (hn : 2 ≤ n) (hc : n ≤ c) (hm : c ≤ 9223372036854775807) (hz : IsB z) (hl : Lies w g n z) :
    Calls Yba.prog 13 #[.slice (some ⟨g, 0, none⟩) n c] w fun e w' => Ans g n (l2M n z (be z 0)) e ∧ Below w.heap.size w w' := by
  obtain ⟨f, hf⟩ : ∃ f, f = be z 0 := ⟨_, rfl⟩
  have hfb : 0 ≤ f ∧ f ≤ 65535 := by rw [hf]; exact be_bd hz 0
  have HL : Hid (Lies w g n z) := hl
  have c0 := hl 0 (by omega)
  have c1 := hl 1 (by omega)
  have U := fun w h0 h1 => u16_be g 0 n c z f w hf hz hn h0 h1
  rw [← hf]
  have HU : Hid (∀ w : World, w.cell? ⟨g, 0, none⟩ = some (.int .u8 (z 0)) → w.cell? ⟨g, 0 + 1, none⟩ = some (.int .u8 (z (0 + 1))) → Calls Yba.prog 17 #[.agg #[], .slice (some ⟨g, 0, none⟩) n c] w fun e w' => e = .returned (.int .u16 f) ∧ Below w.heap.size w w') := U
  clear hl U hf
  go_enter Yba.func13, Yba.ntmps13
  go_upto_region 4 with (go_at_call 17; refine (HU.out _ ?_ ?_).mono ?_; exact c0; exact c1; rintro e w1 ⟨rfl, hb1⟩)
  have HL1 : Hid (Lies w1 g n z) := HL.out.below hb1
  have HB1 : Hid (Below w.heap.size w w1) := hb1
  clear hb1 HL HU c0 c1
  by_cases hctl : f / 32768 % 2 = 1 ∨ ¬ f % 16 = 2
  · have HM : Hid (l2M n z f = none) := by unfold l2M; rw [if_pos hctl]; rfl
    have e1 := and32768 f hfb
    have e2 := and15 f hfb
    by_cases h1 : f / 32768 % 2 = 1
    · go_wp2
      go_ret3
      refine ⟨?_, HB1.out⟩
      rw [HM.out]; rfl
    · go_wp2
      go_ret3
      refine ⟨?_, HB1.out⟩
      rw [HM.out]; rfl
  have HM : Hid (l2M n z f = if f / 512 % 2 = 1 then (if n < l2Len f + 2 then none else l2At n z (l2Len f + 2 + (be z (l2Len f)).toNat)) else l2At n z (l2Len f)) := by unfold l2M; rw [if_neg hctl]; rfl
  have h1 : ¬ f / 32768 % 2 = 1 := fun h => hctl (Or.inl h)
  have h2 : f % 16 = 2 := by
    by_cases h : f % 16 = 2
    · exact h
    · exact absurd (Or.inr h) hctl
  clear hctl
  have e1 := and32768 f hfb
  have e2 := and15 f hfb
  have e3 := and16384 f hfb
  have e4 := and2048 f hfb
  have e5 := and512 f hfb
  go_upto_if 23 with fail
  clear e1 e2 h1 h2
  go_cut [6] (fun v wx => wx = w1 ∧ v = .int .i64 (6 + (if f / 16384 % 2 = 1 then 2 else 0)))
  case first =>
    clear e4 e5
    by_cases h : f / 16384 % 2 = 1
    · go_wp2
      go_meet
      refine ⟨rfl, ?_⟩
      rw [if_pos h]; rfl
    · go_wp2
      go_meet
      refine ⟨rfl, ?_⟩
      rw [if_neg h]; rfl
  case rest =>
    obtain ⟨rfl, hv⟩ := hcut
    obtain ⟨x, hx⟩ : ∃ x : Int, x = 6 + (if f / 16384 % 2 = 1 then 2 else 0) := ⟨_, rfl⟩
    rw [← hx] at hv
    subst hv
    have hxb : 6 ≤ x ∧ x ≤ 8 := by rw [hx]; split <;> omega
    have HX : Hid (x = 6 + (if f / 16384 % 2 = 1 then 2 else 0)) := hx
    clear hx e3
    go_upto_if 28 with fail
    go_cut [6] (fun v wx => wx = wc ∧ v = .int .i64 (l2Len f))
    case first =>
      clear e5
      have hlen : ∀ b : Bool, b = decide (f / 2048 % 2 = 1) → ((l2Len f : Nat) : Int) = x + (if b then 4 else 0) := by
        intro b hb
        rw [HX.out, hb]; unfold l2Len
        simp only [decide_eq_true_eq]
        split <;> split <;> rfl
      have HL2 : Hid (∀ b : Bool, b = decide (f / 2048 % 2 = 1) → ((l2Len f : Nat) : Int) = x + (if b then 4 else 0)) := hlen
      clear hlen
      by_cases h : f / 2048 % 2 = 1
      · go_wp2
        go_meet
        refine ⟨rfl, ?_⟩
        rw [HL2.out true (by simp [h])]; rfl
      · go_wp2
        go_meet
        refine ⟨rfl, ?_⟩
        rw [HL2.out false (by simp [h])]; simp
    case rest =>
      obtain ⟨rfl, hv⟩ := hcut
      obtain ⟨n1, hn1⟩ : ∃ n1, n1 = l2Len f := ⟨_, rfl⟩
      have hn1b : 6 ≤ n1 ∧ n1 ≤ 12 := by rw [hn1]; unfold l2Len; split <;> split <;> omega
      rw [← hn1] at hv
      subst hv
      have HM1 : Hid (l2M n z f = if f / 512 % 2 = 1 then (if n < n1 + 2 then none else l2At n z (n1 + 2 + (be z n1).toNat)) else l2At n z n1) := by rw [hn1]; exact HM.out
      clear HM hn1 HX hxb x e4
      go_upto_if 33 with fail
      go_cut [6] (fun v wx => ∃ n2 : Nat, v = .int .i64 n2 ∧ n2 ≤ 70000 ∧ Hid (l2M n z f = l2At n z n2) ∧ Hid (Below w.heap.size w wx) ∧ Hid (Lies wx g n z))
      case first =>
        by_cases h5 : f / 512 % 2 = 1
        · by_cases hsh : n < n1 + 2
          · have HM2 : Hid (l2M n z f = none) := HM1.out.trans (by rw [if_pos h5, if_pos hsh])
            go_wp2
            go_ret3
            refine ⟨?_, HB1.out⟩
            rw [HM2.out]; rfl
          · have HM2 : Hid (l2M n z f = l2At n z (n1 + 2 + (be z n1).toNat)) := HM1.out.trans (by rw [if_pos h5, if_neg hsh])
            clear HM1
            obtain ⟨f2, hf2⟩ : ∃ f2, f2 = be z n1 := ⟨_, rfl⟩
            have hf2b : 0 ≤ f2 ∧ f2 ≤ 65535 := by rw [hf2]; exact be_bd hz n1
            have c0 := HL1.out n1 (by omega)
            have c1 := HL1.out (n1 + 1) (by omega)
            have HU : Hid (∀ w : World, w.cell? ⟨g, n1, none⟩ = some (.int .u8 (z n1)) → w.cell? ⟨g, n1 + 1, none⟩ = some (.int .u8 (z (n1 + 1))) → Calls Yba.prog 17 #[.agg #[], .slice (some ⟨g, n1, none⟩) (n - n1) (c - n1)] w fun e w' => e = .returned (.int .u16 f2) ∧ Below w.heap.size w w') :=
              fun w h0 h1 => u16_be g n1 (n - n1) (c - n1) z f2 w hf2 hz (by omega) h0 h1
            have HF : Hid (f2 = be z n1) := hf2
            clear hf2
            have hcn : ¬ c = n1 := by omega
            have hcn' : (n1 : Int) ≤ (n : Int) := by omega
            go_wp2
            go_region_with (go_at_call 17; refine (HU.out _ ?_ ?_).mono ?_; exact c0; exact c1; rintro e w2 ⟨rfl, hb2⟩)
            all_goals go_wp2
            all_goals go_meet
            all_goals
              have hbb : Below w.heap.size w w2 := HB1.out.trans ((((Below.refl _ _).drew).trans hb2).mono HB1.out.size)
              exact ⟨n1 + 2 + f2.toNat, by rw [wrap_sum n1 f2 (by omega) hf2b], by omega, by rw [HF.out]; exact HM2, hbb, HL1.out.below (((Below.refl _ _).drew).trans hb2)⟩
        · have HM2 : Hid (l2M n z f = l2At n z n1) := HM1.out.trans (by rw [if_neg h5])
          go_wp2
          go_meet
          exact ⟨n1, rfl, by omega, HM2, HB1, HL1⟩
      case rest =>
        obtain ⟨n2, rfl, hn2, HM2, HB2, HL2⟩ := hcut
        clear HM1 HB1 HL1 e5
        by_cases hsh : n < n2
        · have HM3 : Hid (l2M n z f = none) := HM2.out.trans (by unfold l2At; rw [if_pos hsh])
          go_wp2
          go_ret3
          refine ⟨?_, HB2.out⟩
          rw [HM3.out]; rfl
        · have HM3 : Hid (l2M n z f = pppM n z n2) := HM2.out.trans (by unfold l2At; rw [if_neg hsh])
          have h2n : (n2 : Int) ≤ (n : Int) := by omega
          clear HM2
          by_cases hcn : c = n2
          all_goals
            go_wp2_with fail
            refine (ppp_any _ g n2 (n - n2) _ n z _ (by omega) ?_ (by omega) (by omega) hz HL2.out).mono ?_
            · intro h; first | rfl | omega
            rintro e w2 ⟨he, hb2⟩
            rw [← HM3.out] at he
            have HB3 : Hid (Below w.heap.size w w2) := HB2.out.trans (hb2.mono HB2.out.size)
            clear hb2 HB2
            cases hR : l2M n z f with
            | none =>
              rw [hR] at he
              obtain rfl := he
              have HR : Hid (l2M n z f = none) := hR
              clear hR HM3
              go_wp2
              go_ret3
              refine ⟨?_, HB3.out⟩
              rw [HR.out]; rfl
            | some tk =>
              obtain ⟨t, k⟩ := tk
              rw [hR] at he
              obtain ⟨a', m, c'', rfl, hk, hm', ha'⟩ := he
              have HR : Hid (l2M n z f = some (t, k)) := hR
              have HA : Hid (0 < m → a' = ⟨g, k, none⟩) := ha'
              have HK : Hid (k + m = n) := hk
              clear hR HM3 ha' hk
              go_wp2
              go_ret3
              refine ⟨?_, HB3.out⟩
              rw [HR.out]
              exact ⟨a', m, c'', rfl, HK.out, hm', HA.out⟩

end Go.Proofs.Ybulkcexy.Frame
