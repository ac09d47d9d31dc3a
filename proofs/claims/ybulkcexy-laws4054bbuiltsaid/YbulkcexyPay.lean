/-
  The contract of etherPayload.
-/
import Derived.Test.YbulkcexyEth
namespace Go.Proofs.Ybulkcexy.Frame
open Go.RowKit
set_option linter.unusedVariables false
set_option maxRecDepth 100000

theorem Ans.shape {g N : Nat} {R : Option (Int × Nat)} {e : Ending} (h : Ans g N R e) : ∃ t v b, e = .returned (.tuple #[.int .u16 t, v, .bool b]) ∧ Hid (Ans g N R (.returned (.tuple #[.int .u16 t, v, .bool b]))) := by
  cases R with
  | none => exact ⟨0, .slice none 0 0, false, h, rfl⟩
  | some tk =>
    obtain ⟨t, k⟩ := tk
    obtain ⟨a, m, c, rfl, h1, h2, h3⟩ := h
    exact ⟨t, _, true, rfl, ⟨a, m, c, rfl, h1, h2, h3⟩⟩

set_option maxHeartbeats 2000000 in
theorem pay_any (g N C k0 : Nat) (t0 : Int) (v : Value) (z : Nat → Int) (w : World) (ht0 : 0 ≤ t0 ∧ t0 ≤ 65535) (hk0 : k0 ≤ N) (hv : SlAt g N C k0 v) (hC : C ≤ 9223372036854775807) (hz : IsB z) (hl : Lies w g N z) :
    Calls Yba.prog 16 #[.int .u16 t0, v] w fun e w' => Ans g N (ethM (N + 1) N z t0 k0) e ∧ Below w.heap.size w w' := by
  have HL : Hid (Lies w g N z) := hl
  obtain ⟨R, hR⟩ : ∃ R, R = ethM (N + 1) N z t0 k0 := ⟨_, rfl⟩
  rw [← hR]
  have HR : Hid (ethM (N + 1) N z t0 k0 = R) := hR.symm
  have HV : Hid (SlAt g N C k0 v) := hv
  clear hl hR hv
  go_enter Yba.func16, Yba.ntmps16
  go_wp2
  go_loopg [0, 1] (N + 1) (fun gk t v wr => ∃ ty k, t = .int .u16 ty ∧ (0 ≤ ty ∧ ty ≤ 65535) ∧ Hid (SlAt g N C k v) ∧ k ≤ N ∧ N < k + 4 * gk ∧ Hid (ethM gk N z ty k = R) ∧ Hid (Below w.heap.size w wr) ∧ Hid (Lies wr g N z))
  case atStart => exact ⟨t0, k0, rfl, ht0, HV, hk0, by omega, HR, Below.refl _ _, HL⟩
  case round =>
    clear HR HL HV ht0 hk0
    obtain ⟨ty, k, rfl, hty, HV, hkN, hgk, HR, HB, HL⟩ := hrel
    obtain ⟨f, rfl⟩ : ∃ f, gk = f + 1 := ⟨gk - 1, by omega⟩
    go_upto_if 12 with fail
    go_cut [12] (fun t wx => t = .bool (isTag ty) ∧ wx = wr)
    case first =>
      clear HV HR HB HL
      by_cases h1 : ty = 33024
      · subst h1; go_wp2; go_meet; exact ⟨rfl, rfl⟩
      by_cases h2 : ty = 34984
      · subst h2; go_wp2; go_meet; exact ⟨rfl, rfl⟩
      have hF : (isTag ty) = (ty == 37120) := by unfold isTag; rw [Bool.eq_iff_iff]; simp [h1, h2]
      have HF : Hid ((isTag ty) = (ty == 37120)) := hF
      clear hF
      go_wp2; go_meet; exact ⟨by rw [HF.out], rfl⟩
    case rest =>
    obtain ⟨rfl, rfl⟩ := hcut
    cases htag : isTag ty
    case true =>
      obtain ⟨a, m, c, rfl, hk, hmc, hcC, ha⟩ := HV.out
      have HK : Hid (k + m = N) := hk
      by_cases h4 : m < 4
      · have HR2 : Hid (R = none) := HR.out.symm.trans ((eth_tag htag).trans (by rw [if_neg (by omega)]))
        clear HV ha hk htag
        go_wp2
        go_ret3
        refine ⟨?_, HB.out⟩
        rw [HR2.out]; rfl
      · obtain rfl := ha (by omega)
        have HR2 : Hid (ethM f N z (be z (k + 2)) (k + 4) = R) := ((eth_tag htag).trans (by rw [if_pos (by omega)])).symm.trans HR.out
        have c0 := HL.out (k + 2) (by omega)
        have c1 := HL.out (k + 2 + 1) (by omega)
        obtain ⟨f2, hf2⟩ : ∃ f2, f2 = be z (k + 2) := ⟨_, rfl⟩
        have hf2b : 0 ≤ f2 ∧ f2 ≤ 65535 := by rw [hf2]; exact be_bd hz _
        have HU : Hid (∀ (w : World) (n' c' : Nat), 2 ≤ n' → w.cell? ⟨g, k + 2, none⟩ = some (.int .u8 (z (k + 2))) → w.cell? ⟨g, k + 2 + 1, none⟩ = some (.int .u8 (z (k + 2 + 1))) → Calls Yba.prog 17 #[.agg #[], .slice (some ⟨g, k + 2, none⟩) n' c'] w fun e w' => e = .returned (.int .u16 f2) ∧ Below w.heap.size w w') :=
          fun w n' c' hn h0 h1 => u16_be g (k + 2) n' c' z f2 w hf2 hz hn h0 h1
        rw [← hf2] at HR2
        have hm2 : (2 : Int) ≤ (m : Int) := by omega
        have hm4 : (4 : Int) ≤ (m : Int) := by omega
        have hn2 : ¬ c = 2 := by omega
        clear hf2 hk ha HV HR htag
        by_cases hc4 : c = 4
        · go_wp2
          go_region_with (go_at_call 17; refine (HU.out _ _ _ (by omega) ?_ ?_).mono ?_; exact c0; exact c1; rintro e w' ⟨rfl, hb⟩)
          all_goals (try go_wp2)
          all_goals
            have hbb : Below wc.heap.size wc w' := (Below.refl _ _).drew.trans hb
            go_roundg f
            case measure => omega
            case rel => exact ⟨f2, k + 4, rfl, hf2b, ⟨_, _, _, rfl, by have := HK.out; omega, by omega, by omega, fun h => by omega⟩, by have := HK.out; omega, by omega, HR2, HB.out.trans (hbb.mono HB.out.size), HL.out.below hbb⟩
        · go_wp2
          go_region_with (go_at_call 17; refine (HU.out _ _ _ (by omega) ?_ ?_).mono ?_; exact c0; exact c1; rintro e w' ⟨rfl, hb⟩)
          all_goals (try go_wp2)
          all_goals
            have hbb : Below wc.heap.size wc w' := (Below.refl _ _).drew.trans hb
            go_roundg f
            case measure => omega
            case rel => exact ⟨f2, k + 4, rfl, hf2b, ⟨_, _, _, rfl, by have := HK.out; omega, by omega, by omega, fun h => rfl⟩, by have := HK.out; omega, by omega, HR2, HB.out.trans (hbb.mono HB.out.size), HL.out.below hbb⟩
    case false =>
      have HTag : Hid (isTag ty = false) := htag
      clear htag
      by_cases hppp : ty = 34916
      · obtain ⟨a, m, c, rfl, hk, hmc, hcC, ha⟩ := HV.out
        have HK : Hid (k + m = N) := hk
        by_cases h6 : m < 6
        · have HR2 : Hid (R = none) := HR.out.symm.trans ((eth_ppp hppp).trans (by rw [if_neg (by omega)]))
          clear HV ha hk
          go_wp2
          go_ret3
          refine ⟨?_, HB.out⟩
          rw [HR2.out]; rfl
        · obtain rfl := ha (by omega)
          have HR2 : Hid (R = pppM N z (k + 6)) := HR.out.symm.trans ((eth_ppp hppp).trans (by rw [if_pos (by omega)]))
          have hm6 : (6 : Int) ≤ (m : Int) := by omega
          have hk6 : k + 6 + (m - 6) = N := by omega
          have HK6 : Hid (k + 6 + (m - 6) = N) := hk6
          clear hk ha HV hk6
          by_cases hc6 : c = 6
          · go_wp2_with (go_at_call 18; refine (ppp_any _ g (k + 6) _ _ N z _ HK6.out ?_ (by omega) (by omega) hz HL.out).mono ?_; (intro h; omega); rintro e w2 ⟨he, hb2⟩; rw [← HR2.out] at he; obtain ⟨t, v, b, rfl, HA⟩ := he.shape)
            go_ret3
            exact ⟨HA.out, HB.out.trans (hb2.mono HB.out.size)⟩
          · go_wp2_with (go_at_call 18; refine (ppp_any _ g (k + 6) _ _ N z _ HK6.out ?_ (by omega) (by omega) hz HL.out).mono ?_; (intro h; rfl); rintro e w2 ⟨he, hb2⟩; rw [← HR2.out] at he; obtain ⟨t, v, b, rfl, HA⟩ := he.shape)
            go_ret3
            exact ⟨HA.out, HB.out.trans (hb2.mono HB.out.size)⟩
      · go_upto_if 36 with fail
        go_cut [36] (fun t wx => t = .bool (isLab ty) ∧ wx = wc)
        case first =>
          clear HV HR HB HL HTag
          by_cases h1 : ty = 34887
          · subst h1; go_wp2; go_meet; exact ⟨rfl, rfl⟩
          have hF : (isLab ty) = (ty == 34888) := by unfold isLab; rw [Bool.eq_iff_iff]; simp [h1]
          have HF : Hid ((isLab ty) = (ty == 34888)) := hF
          clear hF
          go_wp2; go_meet; exact ⟨by rw [HF.out], rfl⟩
        case rest =>
        obtain ⟨rfl, rfl⟩ := hcut
        cases hlab : isLab ty
        case false =>
          have HR2 : Hid (R = some (ty, k)) := HR.out.symm.trans (eth_else HTag.out hppp hlab)
          obtain ⟨a, m, c, rfl, hk, hmc, hcC, ha⟩ := HV.out
          have HK : Hid (k + m = N) := hk
          have HA : Hid (0 < m → a = ⟨g, k, none⟩) := ha
          clear HV ha hk hlab
          go_wp2
          go_ret3
          refine ⟨?_, HB.out⟩
          rw [HR2.out]
          exact ⟨a, m, c, rfl, HK.out, hmc, HA.out⟩
        case true =>
          have HR2 : Hid (R = match labM (N + 1) N z k with
            | none => none
            | some k => if ¬ N ≤ k ∧ z k / 16 = 0 then (if k + 18 ≤ N then ethM f N z (be z (k + 16)) (k + 18) else none) else rawM N z k) := HR.out.symm.trans (eth_lab hlab)
          clear HR hlab HTag
          cases hlm : labM (N + 1) N z k with
          | none =>
            have HR3 : Hid (R = none) := by have := HR2.out; rw [hlm] at this; exact this
            have HLM : Hid (labM (N + 1) N z k = none) := hlm
            clear hlm HR2
            go_wp2_with (first | (go_at_call 19; refine (lab_any g N C k _ z _ HV.out hC hz HL.out).mono ?_; rintro e w2 ⟨he, rfl⟩; rw [HLM.out] at he; obtain rfl := he) | (go_at_call 20; refine (raw_nil g N _).mono ?_; rintro e w3 ⟨he, rfl⟩; rw [← HR3.out] at he; obtain ⟨t, v, b, rfl, HA⟩ := he.shape))
            go_ret3
            exact ⟨HA.out, HB.out⟩
          | some k1 =>
            have HR3 : Hid (R = if ¬ N ≤ k1 ∧ z k1 / 16 = 0 then (if k1 + 18 ≤ N then ethM f N z (be z (k1 + 16)) (k1 + 18) else none) else rawM N z k1) := by have := HR2.out; rw [hlm] at this; exact this
            have hk1 := labM_ge _ _ _ _ _ hlm
            have HLM : Hid (labM (N + 1) N z k = some k1) := hlm
            clear hlm HR2
            go_upto_region 16 with (go_at_call 19; refine (lab_any g N C k _ z _ HV.out hC hz HL.out).mono ?_; rintro e w2 ⟨he, rfl⟩; rw [HLM.out] at he; obtain ⟨v1, rfl, hv1⟩ := he)
            obtain ⟨a1, m1, c1, hv1e, hkm, hmc1, hcC1, ha1⟩ := hv1
            subst hv1e
            have HKM : Hid (k1 + m1 = N) := hkm
            by_cases hcase : ¬ N ≤ k1 ∧ z k1 / 16 = 0
            · have HR4 : Hid (R = if k1 + 18 ≤ N then ethM f N z (be z (k1 + 16)) (k1 + 18) else none) := by have := HR3.out; rw [if_pos hcase] at this; exact this
              obtain rfl := ha1 (by omega)
              have d0 := HL.out k1 (by omega)
              have db := hz k1
              have hn0 : z k1 / 16 = 0 := hcase.2
              have hm0 : (0 : Int) < (m1 : Int) := by omega
              by_cases h4 : m1 < 4
              · have HR5 : Hid (R = none) := HR4.out.trans (by rw [if_neg (by omega)])
                clear hcase hkm ha1 HV HR3
                go_wp2
                go_ret3
                refine ⟨?_, HB.out⟩
                rw [HR5.out]; rfl
              · have hm4 : (4 : Int) ≤ (m1 : Int) := by omega
                have HV4 : ∀ a' c', (0 < m1 - 4 → a' = (⟨g, k1 + 4, none⟩ : Addr)) → m1 - 4 ≤ c' → c' ≤ C → SlAt g N C (k1 + 4) (.slice (some a') (m1 - 4) c') := fun a' c' h1 h2 h3 => ⟨a', m1 - 4, c', rfl, by omega, h2, h3, h1⟩
                have HV4' : Hid (∀ a' c', (0 < m1 - 4 → a' = (⟨g, k1 + 4, none⟩ : Addr)) → m1 - 4 ≤ c' → c' ≤ C → SlAt g N C (k1 + 4) (.slice (some a') (m1 - 4) c')) := HV4
                clear HV4 hcase hkm ha1 HV HR3
                by_cases hlong : k1 + 18 ≤ N
                · have HR5 : Hid (ethM f N z (be z (k1 + 16)) (k1 + 18) = R) := (HR4.out.trans (by rw [if_pos hlong])).symm
                  obtain ⟨f2, hf2⟩ : ∃ f2, f2 = be z (k1 + 16) := ⟨_, rfl⟩
                  have hf2b : 0 ≤ f2 ∧ f2 ≤ 65535 := by rw [hf2]; exact be_bd hz _
                  rw [← hf2] at HR5
                  have HF2 : Hid (be z (k1 + 4 + 12) = f2) := by rw [hf2]; rfl
                  clear hf2
                  by_cases hc4 : c1 = 4
                  · go_wp2_with (go_at_call 15; refine (hd_any g N C (k1 + 4) _ z _ (HV4'.out _ _ ?_ (by omega) (by omega)) hC hz HL.out).mono ?_; (intro h; omega); rintro e w3 ⟨he, hb3⟩; rcases he with ⟨hsh, _⟩ | ⟨_, v3, rfl, hv3⟩; (exfalso; omega); rw [HF2.out])
                    go_roundg f
                    case measure => omega
                    case rel => exact ⟨f2, k1 + 18, rfl, hf2b, hv3, by omega, by omega, HR5, HB.out.trans (hb3.mono HB.out.size), HL.out.below hb3⟩
                  · go_wp2_with (go_at_call 15; refine (hd_any g N C (k1 + 4) _ z _ (HV4'.out _ _ ?_ (by omega) (by omega)) hC hz HL.out).mono ?_; (intro h; rfl); rintro e w3 ⟨he, hb3⟩; rcases he with ⟨hsh, _⟩ | ⟨_, v3, rfl, hv3⟩; (exfalso; omega); rw [HF2.out])
                    go_roundg f
                    case measure => omega
                    case rel => exact ⟨f2, k1 + 18, rfl, hf2b, hv3, by omega, by omega, HR5, HB.out.trans (hb3.mono HB.out.size), HL.out.below hb3⟩
                · have HR5 : Hid (R = none) := HR4.out.trans (by rw [if_neg hlong])
                  by_cases hc4 : c1 = 4
                  · go_wp2_with (go_at_call 15; refine (hd_any g N C (k1 + 4) _ z _ (HV4'.out _ _ ?_ (by omega) (by omega)) hC hz HL.out).mono ?_; (intro h; omega); rintro e w3 ⟨he, hb3⟩; rcases he with ⟨hsh, rfl⟩ | ⟨hlg, v3, _, hv3⟩; rotate_left; (exfalso; omega))
                    go_ret3
                    refine ⟨?_, HB.out.trans (hb3.mono HB.out.size)⟩
                    rw [HR5.out]; rfl
                  · go_wp2_with (go_at_call 15; refine (hd_any g N C (k1 + 4) _ z _ (HV4'.out _ _ ?_ (by omega) (by omega)) hC hz HL.out).mono ?_; (intro h; rfl); rintro e w3 ⟨he, hb3⟩; rcases he with ⟨hsh, rfl⟩ | ⟨hlg, v3, _, hv3⟩; rotate_left; (exfalso; omega))
                    go_ret3
                    refine ⟨?_, HB.out.trans (hb3.mono HB.out.size)⟩
                    rw [HR5.out]; rfl
            · have HR4 : Hid (R = rawM N z k1) := by have := HR3.out; rw [if_neg hcase] at this; exact this
              have HV1 : Hid (SlAt g N C k1 (.slice (some a1) m1 c1)) := ⟨a1, m1, c1, rfl, hkm, hmc1, hcC1, ha1⟩
              by_cases h0 : m1 = 0
              · subst h0
                clear hcase hkm ha1 HV HR3
                go_wp2_with (go_at_call 20; refine (raw_any g N C k1 _ z _ HV1.out hC hz HL.out).mono ?_; rintro e w3 ⟨he, rfl⟩; rw [← HR4.out] at he; obtain ⟨t, v, b, rfl, HA⟩ := he.shape)
                go_ret3
                exact ⟨HA.out, HB.out⟩
              · obtain rfl := ha1 (by omega)
                have d0 := HL.out k1 (by omega)
                have db := hz k1
                have hn0 : ¬ z k1 / 16 = 0 := fun h => hcase ⟨by omega, h⟩
                have hm0 : (0 : Int) < (m1 : Int) := by omega
                have hmb : ((m1 : Int) == 0) = false := beq_eq_false_iff_ne.2 (by omega)
                have hnb : (z k1 / 16 != 0) = true := by simp [hn0]
                clear hcase hkm ha1 HV HR3
                go_wp2_with (go_at_call 20; refine (raw_any g N C k1 _ z _ HV1.out hC hz HL.out).mono ?_; rintro e w3 ⟨he, rfl⟩; rw [← HR4.out] at he; obtain ⟨t, v, b, rfl, HA⟩ := he.shape)
                go_ret3
                exact ⟨HA.out, HB.out⟩

end Go.Proofs.Ybulkcexy.Frame
