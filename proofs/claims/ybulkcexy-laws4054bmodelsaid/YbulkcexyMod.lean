/-
  The contract of zzs4054bmodel: the offset walk.
-/
import Derived.Test.YbulkcexyEth
namespace Go.Proofs.Ybulkcexy.Frame
open Go.RowKit
set_option linter.unusedVariables false
set_option maxRecDepth 100000

/-- What the model answers. -/
def ModAns (R : Option (Int × Nat)) (e : Ending) : Prop :=
  match R with
  | none => e = .returned (.tuple #[.int .u16 0, .int .i64 0, .bool false])
  | some (t, k) => e = .returned (.tuple #[.int .u16 t, .int .i64 k, .bool true])

theorem mod_short (a : Addr) (N c : Nat) (w : World) (h14 : N < 14) (z : Nat → Int) :
    Calls Yba.prog 8 #[.slice (some a) N c] w fun e w' => ModAns (etherM N z) e ∧ Below w.heap.size w w' := by
  have HR : Hid (etherM N z = none) := by unfold etherM; rw [if_pos h14]; rfl
  go_enter Yba.func8, Yba.ntmps8
  go_wp2
  go_ret3
  refine ⟨?_, Below.refl _ _⟩
  rw [HR.out]; rfl

theorem mod_no (p : Int) (k : Nat) (h1 : ¬ p = 33) (h2 : ¬ p = 87) : ModAns (pppFin p k) (.returned (.tuple #[.int .u16 0, .int .i64 0, .bool false])) := by
  unfold pppFin; rw [if_neg h1, if_neg h2]; rfl
theorem mod_4 {p : Int} {k : Nat} {K : Int} (h1 : p = 33) (hk : K = (k : Int)) : ModAns (pppFin p k) (.returned (.tuple #[.int .u16 2048, .int .i64 K, .bool true])) := by
  subst hk; unfold pppFin; rw [if_pos h1]; rfl
theorem mod_6 {p : Int} {k : Nat} {K : Int} (h1 : p = 87) (hk : K = (k : Int)) : ModAns (pppFin p k) (.returned (.tuple #[.int .u16 34525, .int .i64 K, .bool true])) := by
  subst hk; unfold pppFin; rw [if_neg (by omega), if_pos h1]; rfl

set_option maxHeartbeats 4000000 in
theorem mod_long (g N c : Nat) (z : Nat → Int) (w : World) (h14 : 14 ≤ N) (hN : N ≤ 1000000) (hz : IsB z) (hl : Lies w g N z) :
    Calls Yba.prog 8 #[.slice (some ⟨g, 0, none⟩) N c] w fun e w' => ModAns (etherM N z) e ∧ Below w.heap.size w w' := by
  have HL : Hid (Lies w g N z) := hl
  obtain ⟨R, hR⟩ : ∃ R, R = etherM N z := ⟨_, rfl⟩
  have HR : Hid (ethM (N + 1) N z (be z 12) 14 = R) := by rw [hR]; unfold etherM; rw [if_neg (by omega)]; rfl
  rw [← hR]
  have c0 := hl 12 (by omega)
  have c1 := hl 13 (by omega)
  have b0 := hz 12
  have b1 := hz 13
  have hl0 : (12 : Int) < (N : Int) := by omega
  have hl1 : (13 : Int) < (N : Int) := by omega
  clear hl hR
  go_enter Yba.func8, Yba.ntmps8
  go_upto_region 4 with fail
  go_cut [6] (fun t wx => t = .int .u16 (be z 12) ∧ Hid (Below w.heap.size w wx))
  case first => as_aux_lemma =>
    go_quiet (fail)
    go_wp2
    go_meet
    exact ⟨by rw [or_hi' _ _ b0 b1]; rfl, below_drewN (Below.refl _ _) _⟩
  case rest =>
  obtain ⟨rfl, HB⟩ := hcut
  have HL1 : Hid (Lies wc g N z) := HL.out.below HB.out
  obtain ⟨t0, ht0⟩ : ∃ t0, t0 = be z 12 := ⟨_, rfl⟩
  have ht0b : 0 ≤ t0 ∧ t0 ≤ 65535 := by rw [ht0]; exact be_bd hz 12
  rw [← ht0] at HR ⊢
  clear HL c0 c1 b0 b1 hl0 hl1 ht0
  go_wp2
  go_loopg [6, 7] (N + 1) (fun gk t i wr => ∃ ty k, t = .int .u16 ty ∧ (0 ≤ ty ∧ ty ≤ 65535) ∧ i = .int .i64 (k : Nat) ∧ k ≤ N ∧ N < k + 4 * gk ∧ Hid (ethM gk N z ty k = R) ∧ Hid (Below w.heap.size w wr) ∧ Hid (Lies wr g N z))
  case atStart => exact ⟨t0, 14, rfl, ht0b, rfl, by omega, by omega, HR, HB, HL1⟩
  case round =>
    clear HR HL1 HB ht0b
    obtain ⟨ty, k, rfl, hty, rfl, hkN, hgk, HR, HB, HL⟩ := hrel
    obtain ⟨f, rfl⟩ : ∃ f, gk = f + 1 := ⟨gk - 1, by omega⟩
    go_upto_if 33 with fail
    go_cut [33] (fun t wx => t = .bool (isTag ty) ∧ wx = wr)
    case first => as_aux_lemma =>
      clear HR HB HL
      by_cases h1 : ty = 33024
      · subst h1; go_wp2; go_meet; exact ⟨rfl, rfl⟩
      by_cases h2 : ty = 34984
      · subst h2; go_wp2; go_meet; exact ⟨rfl, rfl⟩
      have hF : (isTag ty) = (ty == 37120) := by unfold isTag; rw [Bool.eq_iff_iff]; simp [h1, h2]
      have HF : Hid ((isTag ty) = (ty == 37120)) := hF
      clear hF
      go_wp2; go_meet; exact ⟨by rw [HF.out], rfl⟩
    case rest =>
    obtain ⟨rfl, rfl⟩ := hcut
    cases htag : isTag ty
    case true => as_aux_lemma =>
      by_cases h4 : N < k + 4
      · have HR2 : Hid (R = none) := HR.out.symm.trans ((eth_tag htag).trans (by rw [if_neg (by omega)]))
        clear htag
        go_wp2
        go_ret3
        refine ⟨?_, HB.out⟩
        rw [HR2.out]; rfl
      · have HR2 : Hid (ethM f N z (be z (k + 2)) (k + 4) = R) := ((eth_tag htag).trans (by rw [if_pos (by omega)])).symm.trans HR.out
        have c0 := HL.out (k + 2) (by omega)
        have c1 := HL.out (k + 3) (by omega)
        have b0 := hz (k + 2)
        have b1 := hz (k + 3)
        have hl0 : (k : Int) + 2 < (N : Int) := by omega
        have hl1 : (k : Int) + 3 < (N : Int) := by omega
        clear htag HR
        go_wp2
        go_quiet (fail)
        go_wp2
        go_roundg f
        case measure => omega
        case rel =>
          refine ⟨be z (k + 2), k + 4, ?_, be_bd hz _, by go_num, by omega, by omega, HR2, below_drewN HB.out _, HL.out.below (below_drewN (Below.refl _ _) _)⟩
          rw [or_hi' _ _ b0 b1]; rfl
    case false =>
      have HTag : Hid (isTag ty = false) := htag
      clear htag
      by_cases hppp : ty = 34916
      · as_aux_lemma =>
        subst hppp
        by_cases h6 : N < k + 6
        · have HR2 : Hid (R = none) := HR.out.symm.trans ((eth_ppp rfl).trans (by rw [if_neg (by omega)]))
          go_wp2
          go_ret3
          refine ⟨?_, HB.out⟩
          rw [HR2.out]; rfl
        · have HR2 : Hid (R = pppM N z (k + 6)) := HR.out.symm.trans ((eth_ppp rfl).trans (by rw [if_pos (by omega)]))
          go_upto_region 19 with fail
          go_cut [8] (fun v wx => wx = wc ∧ ∃ j : Nat, v = .int .i64 j ∧ j ≤ N ∧ Hid (R = pppM N z j))
          case first => as_aux_lemma =>
            go_wp2
            go_meet
            exact ⟨rfl, k + 6, by go_num, by omega, HR2⟩
          case rest =>
          clear HR2
          obtain ⟨rfl, j, rfl, hjN, HRj⟩ := hcut
          go_upto_region 20 with fail
          go_cut [83] (fun t wx => t = .bool (pppHd N z j) ∧ wx = wc)
          case first => as_aux_lemma =>
            have b0 := hz j
            have b1 := hz (j + 1)
            by_cases h2 : j + 2 ≤ N
            · have c0 := HL.out j (by omega)
              have c1 := HL.out (j + 1) (by omega)
              have hl0 : (j : Int) < (N : Int) := by omega
              have hl1 : (j : Int) + 1 < (N : Int) := by omega
              have hd : (2 : Int) ≤ (N : Int) - (j : Int) := by omega
              by_cases q0 : z j = 255
              · have HF : Hid (pppHd N z j = (z (j + 1) == 3)) := (by unfold pppHd; rw [Bool.eq_iff_iff]; simp [h2, q0] : pppHd N z j = (z (j + 1) == 3))
                have q0b : (z j == 255) = true := by simp [q0]
                clear q0
                go_wp2
                go_meet
                exact ⟨by rw [HF.out], rfl⟩
              · have HF : Hid (pppHd N z j = false) := (decide_eq_false (fun h => q0 h.2.1) : pppHd N z j = false)
                have q0b : (z j == 255) = false := by simp [q0]
                clear q0
                go_wp2
                go_meet
                exact ⟨by rw [HF.out], rfl⟩
            · have HF : Hid (pppHd N z j = false) := (decide_eq_false (fun h => h2 h.1) : pppHd N z j = false)
              go_wp2
              go_meet
              exact ⟨by rw [HF.out], rfl⟩
          case rest =>
          obtain ⟨rfl, rfl⟩ := hcut
          go_upto_if 83 with fail
          go_cut [8] (fun v wx => wx = wc ∧ ∃ j1 : Nat, v = .int .i64 j1 ∧ j1 ≤ N ∧ Hid (R = pppAt N z j1))
          case first => as_aux_lemma =>
            cases hb : pppHd N z j
            case true =>
              have h2 : j + 2 ≤ N := by simp [pppHd] at hb; omega
              have HR3 : Hid (R = pppAt N z (j + 2)) := HRj.out.trans (by unfold pppM; rw [hb]; rfl)
              go_wp2
              go_meet
              exact ⟨rfl, j + 2, by go_num, h2, HR3⟩
            case false =>
              have HR3 : Hid (R = pppAt N z j) := HRj.out.trans (by unfold pppM; rw [hb]; rfl)
              go_wp2
              go_meet
              exact ⟨rfl, j, rfl, hjN, HR3⟩
          case rest =>
          clear HRj hjN
          obtain ⟨rfl, j1, rfl, hj1, HR3⟩ := hcut
          have b0 := hz j1
          by_cases hodd : j1 + 1 ≤ N ∧ z j1 % 2 = 1
          · have HR4 : Hid (R = pppFin (z j1) (j1 + 1)) := HR3.out.trans (by unfold pppAt; rw [if_pos hodd])
            have c0 := HL.out j1 (by omega)
            have hl0 : (j1 : Int) < (N : Int) := by omega
            have hd : (1 : Int) ≤ (N : Int) - (j1 : Int) := by omega
            have e1 := and1 _ b0
            obtain ⟨_, hodd⟩ := hodd
            clear HR3
            go_wp2
            all_goals go_ret3
            all_goals (refine ⟨?_, HB.out⟩; rw [HR4.out])
            · exact mod_4 (by simpa using ‹(z j1 == 33) = true›) rfl
            · exact mod_6 (by simpa using ‹(z j1 == 87) = true›) rfl
            · exact mod_no _ _ (by simpa using ‹(z j1 == 33) = false›) (by simpa using ‹(z j1 == 87) = false›)
          · by_cases h2 : j1 + 2 ≤ N
            · have HR4 : Hid (R = pppFin (be z j1) (j1 + 2)) := HR3.out.trans (by unfold pppAt; rw [if_neg hodd, if_pos h2])
              have c0 := HL.out j1 (by omega)
              have c1 := HL.out (j1 + 1) (by omega)
              have b1 := hz (j1 + 1)
              have hl0 : (j1 : Int) < (N : Int) := by omega
              have hl1 : (j1 : Int) + 1 < (N : Int) := by omega
              have hd : (1 : Int) ≤ (N : Int) - (j1 : Int) := by omega
              have hd2 : (2 : Int) ≤ (N : Int) - (j1 : Int) := by omega
              have e1 := and1 _ b0
              have hev : ¬ z j1 % 2 = 1 := fun h => hodd ⟨by omega, h⟩
              have e2 := or_hi' _ _ b0 b1
              clear HR3 hodd
              go_wp2
              go_quiet (fail)
              go_wp2
              all_goals go_ret3
              all_goals (refine ⟨?_, below_drewN HB.out _⟩; rw [HR4.out])
              · exact mod_4 (by simpa [be] using ‹(z j1 * 256 + z (j1 + 1) == 33) = true›) rfl
              · exact mod_6 (by simpa [be] using ‹(z j1 * 256 + z (j1 + 1) == 87) = true›) rfl
              · exact mod_no _ _ (by simpa [be] using ‹(z j1 * 256 + z (j1 + 1) == 33) = false›) (by simpa [be] using ‹(z j1 * 256 + z (j1 + 1) == 87) = false›)
            · have HR4 : Hid (R = none) := HR3.out.trans (by unfold pppAt; rw [if_neg hodd, if_neg h2])
              by_cases h1 : j1 + 1 ≤ N
              · have c0 := HL.out j1 (by omega)
                have hl0 : (j1 : Int) < (N : Int) := by omega
                have hd : (1 : Int) ≤ (N : Int) - (j1 : Int) := by omega
                have e1 := and1 _ b0
                have hev : ¬ z j1 % 2 = 1 := fun h => hodd ⟨by omega, h⟩
                clear HR3 hodd
                go_wp2
                go_ret3
                refine ⟨?_, HB.out⟩
                rw [HR4.out]; rfl
              · clear HR3 hodd
                go_wp2
                go_ret3
                refine ⟨?_, HB.out⟩
                rw [HR4.out]; rfl
      · go_upto_if 130 with fail
        go_cut [130] (fun t wx => t = .bool (isLab ty) ∧ wx = wc)
        case first => as_aux_lemma =>
          clear HR HB HL HTag
          by_cases h1 : ty = 34887
          · subst h1; go_wp2; go_meet; exact ⟨rfl, rfl⟩
          have HF : Hid ((isLab ty) = (ty == 34888)) := (by unfold isLab; rw [Bool.eq_iff_iff]; simp [h1] : (isLab ty) = (ty == 34888))
          go_wp2; go_meet; exact ⟨by rw [HF.out], rfl⟩
        case rest =>
        obtain ⟨rfl, rfl⟩ := hcut
        cases hlab : isLab ty
        case false => as_aux_lemma =>
          have HR2 : Hid (R = some (ty, k)) := HR.out.symm.trans (eth_else HTag.out hppp hlab)
          clear hlab HTag hppp HR
          go_wp2
          go_ret3
          refine ⟨?_, HB.out⟩
          rw [HR2.out]; rfl
        case true =>
          have HR2 : Hid (R = match labM (N + 1) N z k with
            | none => none
            | some k => if ¬ N ≤ k ∧ z k / 16 = 0 then (if k + 18 ≤ N then ethM f N z (be z (k + 16)) (k + 18) else none) else rawM N z k) := HR.out.symm.trans (eth_lab hlab)
          obtain ⟨LR, hLR⟩ : ∃ LR, LR = labM (N + 1) N z k := ⟨_, rfl⟩
          rw [← hLR] at HR2
          have HLR : Hid (labM (N + 1) N z k = LR) := hLR.symm
          clear hLR HR hlab HTag hppp
          go_wp2
          go_loopg [10, 11] (N + 1) (fun gk kv fv wi => wi = wc ∧ fv = .bool false ∧ ∃ k2 : Nat, kv = .int .i64 k2 ∧ k ≤ k2 ∧ k2 ≤ N ∧ N < k2 + 4 * gk ∧ Hid (labM gk N z k2 = LR))
          case atStart => exact ⟨rfl, rfl, k, rfl, Nat.le_refl _, hkN, by omega, HLR⟩
          case round =>
            clear HLR
            obtain ⟨rfl, rfl, k2, rfl, hkk, hk2N, hgk2, HLR⟩ := hrel
            obtain ⟨f3, rfl⟩ : ∃ f3, gk = f3 + 1 := ⟨gk - 1, by omega⟩
            by_cases h4 : k2 + 4 ≤ N
            · have c2 := HL.out (k2 + 2) (by omega)
              have b2 := hz (k2 + 2)
              have e1 := and1 _ b2
              have hl2 : (k2 : Int) + 2 < (N : Int) := by omega
              have hd4 : (4 : Int) ≤ (N : Int) - (k2 : Int) := by omega
              by_cases hp : z (k2 + 2) % 2 = 1
              · have hLR2 : LR = some (k2 + 4) := HLR.out.symm.trans (lab_yes h4 hp)
                have HR3 : Hid (R = if ¬ N ≤ k2 + 4 ∧ z (k2 + 4) / 16 = 0 then (if k2 + 4 + 18 ≤ N then ethM f N z (be z (k2 + 4 + 16)) (k2 + 4 + 18) else none) else rawM N z (k2 + 4)) := by have := HR2.out; rw [hLR2] at this; exact this
                clear hLR2 HLR HR2
                by_cases hend : N ≤ k2 + 4
                · have HR4 : Hid (R = none) := by
                    have := HR3.out
                    rw [if_neg (by omega)] at this
                    unfold rawM at this
                    rw [if_pos hend] at this
                    exact this
                  have heq : ((k2 : Int) + 4 == (N : Int)) = true := by simp; omega
                  go_wp2
                  go_ret3
                  refine ⟨?_, HB.out⟩
                  rw [HR4.out]; rfl
                · have c4 := HL.out (k2 + 4) (by omega)
                  have b4 := hz (k2 + 4)
                  have heq : ((k2 : Int) + 4 == (N : Int)) = false := by simp; omega
                  have hl4 : (k2 : Int) + 4 < (N : Int) := by omega
                  by_cases hn4 : z (k2 + 4) / 16 = 4
                  · have HR4 : Hid (R = some (2048, k2 + 4)) := by
                      have := HR3.out
                      rw [if_neg (by omega)] at this
                      unfold rawM at this
                      rw [if_neg hend, if_pos hn4] at this
                      exact this
                    go_wp2
                    go_ret3
                    refine ⟨?_, HB.out⟩
                    rw [HR4.out]; rfl
                  by_cases hn6 : z (k2 + 4) / 16 = 6
                  · have HR4 : Hid (R = some (34525, k2 + 4)) := by
                      have := HR3.out
                      rw [if_neg (by omega)] at this
                      unfold rawM at this
                      rw [if_neg hend, if_neg hn4, if_pos hn6] at this
                      exact this
                    go_wp2
                    go_ret3
                    refine ⟨?_, HB.out⟩
                    rw [HR4.out]; rfl
                  by_cases hn0 : z (k2 + 4) / 16 = 0
                  · by_cases hlong : k2 + 4 + 18 ≤ N
                    · have HR4 : Hid (ethM f N z (be z (k2 + 4 + 16)) (k2 + 4 + 18) = R) := by
                        have := HR3.out
                        rw [if_pos ⟨hend, hn0⟩, if_pos hlong] at this
                        exact this.symm
                      have d0 := HL.out (k2 + 4 + 16) (by omega)
                      have d1 := HL.out (k2 + 4 + 17) (by omega)
                      have f0 := hz (k2 + 4 + 16)
                      have f1 := hz (k2 + 4 + 17)
                      have hi0 : (k2 : Int) + 4 + 16 < (N : Int) := by omega
                      have hi1 : (k2 : Int) + 4 + 17 < (N : Int) := by omega
                      clear HR3 hn4 hn6
                      go_wp2
                      go_quiet (fail)
                      go_wp2
                      go_roundg f
                      case measure => omega
                      case rel =>
                        refine ⟨be z (k2 + 4 + 16), k2 + 4 + 18, ?_, be_bd hz _, by go_num, by omega, by omega, HR4, below_drewN HB.out _, HL.out.below (below_drewN (Below.refl _ _) _)⟩
                        rw [or_hi' _ _ f0 f1]; rfl
                    · have HR4 : Hid (R = none) := by
                        have := HR3.out
                        rw [if_pos ⟨hend, hn0⟩, if_neg hlong] at this
                        exact this
                      clear HR3 hn4 hn6
                      go_wp2
                      go_ret3
                      refine ⟨?_, HB.out⟩
                      rw [HR4.out]; rfl
                  · have HR4 : Hid (R = none) := by
                      have := HR3.out
                      rw [if_neg (by omega)] at this
                      unfold rawM at this
                      rw [if_neg hend, if_neg hn4, if_neg hn6] at this
                      exact this
                    go_wp2
                    go_ret3
                    refine ⟨?_, HB.out⟩
                    rw [HR4.out]; rfl
              · have HLR2 : Hid (labM f3 N z (k2 + 4) = LR) := (lab_no h4 hp).symm.trans HLR.out
                go_wp2
                go_roundg f3
                case measure => omega
                case rel => exact ⟨rfl, rfl, k2 + 4, by go_num, by omega, h4, by omega, HLR2⟩
            · have hLR2 : LR = none := HLR.out.symm.trans (lab_end h4)
              have HR3 : Hid (R = none) := by have := HR2.out; rw [hLR2] at this; exact this
              clear hLR2 HLR HR2
              go_wp2
              go_ret3
              refine ⟨?_, HB.out⟩
              rw [HR3.out]; rfl

end Go.Proofs.Ybulkcexy.Frame
