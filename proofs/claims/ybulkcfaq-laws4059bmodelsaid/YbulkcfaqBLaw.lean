/-
  LawS4059BModel: the walk of the law.
-/
import Derived.Test.YbulkcfaqWant
import Derived.Deep.RegionHeld3
namespace Go.Proofs.Ybulkcfaq.Sets
open Go.RowKit
set_option linter.unusedVariables false
set_option maxRecDepth 100000

set_option maxHeartbeats 60000000 in
theorem bm_main (na sa ra fa : Option Addr) (n nc sn sc rn rc fn fc : Nat) (c : Int) (zh zx zd zs zr zf : Nat → Int) (w : World)
    (hN : SrcN w na n zh zx zd) (hS : Src32 w sa sn zs) (hR : Src32 w ra rn zr) (hF : Src32 w fa fn zf)
    (h1 : n ≤ 1024) (h2 : sn ≤ 1024) (h3 : rn ≤ 1024) (h4 : fn ≤ 1024) :
    Calls Yba.prog 4 #[.slice na n nc, .slice sa sn sc, .slice ra rn rc, .slice fa fn fc, .int .i64 c] w fun e w' => e = .returned (.bool true) ∧ Below w.heap.size w w' := by
  have HN : Hid (SrcN w na n zh zx zd) := hN
  have HS : Hid (Src32 w sa sn zs) := hS
  have HR : Hid (Src32 w ra rn zr) := hR
  have HF : Hid (Src32 w fa fn zf) := hF
  clear hN hS hR hF
  obtain ⟨i0, hi, hz0, hz1, hz2⟩ := info_parts info21
  have g1 : ¬ (1024 : Int) < (n : Int) := by omega
  have g2 : ¬ (1024 : Int) < (sn : Int) := by omega
  have g3 : ¬ (1024 : Int) < (rn : Int) := by omega
  have g4 : ¬ (1024 : Int) < (fn : Int) := by omega
  obtain ⟨k, hk⟩ : ∃ k, k = kk sn := ⟨_, rfl⟩
  have HK : Hid (k = kk sn) := hk
  have hk1 : 1 ≤ k := by rw [hk]; unfold kk; split <;> omega
  have hk2 : k ≤ 1024 := by rw [hk]; unfold kk; split <;> omega
  have hks : sn ≤ k := by rw [hk]; unfold kk; split <;> omega
  clear hk
  go_enter Yba.func4, Yba.ntmps4
  go_upto_if 48 with fail
  go_cut [11] (fun v wx => v = .int .i64 k ∧ w = wx)
  case first => as_aux_lemma =>
    by_cases h0 : sn = 0
    · have e0 : ((sn : Int) == 0) = true := by simp [h0]
      have HE : Hid (sn = 0) := h0
      clear h0
      go_wp2
      go_meet
      have := HK.out
      rw [HE.out] at this
      simp [this, kk]
    · have e0 : ((sn : Int) == 0) = false := by simp [h0]
      have HE : Hid (¬ sn = 0) := h0
      clear h0
      go_wp2
      go_meet
      have := HK.out
      rw [kk, if_neg HE.out] at this
      simp [this]
  case rest =>
  obtain ⟨rfl, rfl⟩ := hcut
  go_upto_region 7 with fail
  go_cut [13] (fun v wx => ∃ M bl, v = .pointer (some ⟨M, 0, none⟩) ∧ Hid (Ini w.heap.size w wx M bl n k fn zero0 c))
  case first =>
    refine wp_region_any (by kernel_rfl) ?_
    try (change wpAny _ _ _ _ _ _ _ (World.drew _))
    refine wpAny_take (i := 0) (v := ?_) rfl (by kernel_rfl) (by kernel_rfl) (by kernel_rfl) (fun _ _ _ h => h) (Or.inl ⟨by rfl, ?_⟩) ?_
    rotate_left
    · intro w; go_simp; try with_reducible rfl
    refine wpAny_take (i := 2) (v := ?_) rfl (by kernel_rfl) (by kernel_rfl) (by kernel_rfl) (fun _ _ _ h => h) (Or.inl ⟨by rfl, ?_⟩) ?_
    rotate_left
    · intro w; go_simp; try with_reducible rfl
    refine wpAny_take (i := 4) (v := ?_) rfl (by kernel_rfl) (by kernel_rfl) (by kernel_rfl) (fun _ _ _ h => h) (Or.inl ⟨by rfl, ?_⟩) ?_
    rotate_left
    · intro w; go_simp; try with_reducible rfl
    refine wpAny_take (i := 6) (v := ?_) rfl (by kernel_rfl) (by kernel_rfl) (by kernel_rfl) (fun _ _ _ h => h) (Or.inl ⟨by rfl, ?_⟩) ?_
    rotate_left
    · intro w; go_simp; try with_reducible rfl
    refine wpAny_take (i := 8) (v := ?_) rfl (by kernel_rfl) (by kernel_rfl) (by kernel_rfl) (fun _ _ _ h => h) (Or.inl ⟨by rfl, ?_⟩) ?_
    rotate_left
    · intro w; go_simp; try with_reducible rfl
    refine wpAny_take (i := 10) (v := ?_) rfl (by kernel_rfl) (by kernel_rfl) (by kernel_rfl) (fun _ _ _ h => h) (Or.inl ⟨by rfl, ?_⟩) ?_
    rotate_left
    · intro w; go_simp; try with_reducible rfl
    refine wpAny_take (i := 11) (v := ?_) rfl (by kernel_rfl) (by kernel_rfl) (by kernel_rfl) (fun _ _ _ h => h) (Or.inl ⟨by rfl, ?_⟩) ?_
    rotate_left
    · intro w; go_simp; try with_reducible rfl
    refine wpAny_take (i := 13) (v := ?_) rfl (by kernel_rfl) (by kernel_rfl) (by kernel_rfl) (fun _ _ _ h => h) (Or.inl ⟨by rfl, ?_⟩) ?_
    rotate_left
    · intro w; go_simp; try with_reducible rfl
    change wpAny _ _ _ _ 9 (L6 false false false false false false) _ _
    refine six_makes ?_ ?_ i0 Yba.underlying26 hi hz0 hz1 hz2 (nsf n k fn) ?_ _ ?_ ?_ _ ?_
    · intro b0 b1 b2 b3 b4 b5
      cases b0 <;> cases b1 <;> cases b2 <;> cases b3 <;> cases b4 <;> cases b5 <;> kernel_rfl
    · intro j hj
      match j, hj with
      | 0, _ => exact ⟨_, rfl, rfl, rfl, rfl⟩
      | 1, _ => exact ⟨_, rfl, rfl, rfl, rfl⟩
      | 2, _ => exact ⟨_, rfl, rfl, rfl, rfl⟩
      | 3, _ => exact ⟨_, rfl, rfl, rfl, rfl⟩
      | 4, _ => exact ⟨_, rfl, rfl, rfl, rfl⟩
      | 5, _ => exact ⟨_, rfl, rfl, rfl, rfl⟩
    · intro j hj
      match j, hj with
      | 0, _ | 1, _ | 2, _ | 3, _ | 4, _ | 5, _ => simp only [nsf]; omega
    · simp [Act.put]
    · intro j hj
      match j, hj with
      | 0, _ => show Act.eval _ (.tmp 51) = .int .i64 (n : Int); go_simp
      | 1, _ => show Act.eval _ (.tmp 53) = .int .i64 (n : Int); go_simp
      | 2, _ => show Act.eval _ (.tmp 55) = .int .i64 (n : Int); go_simp
      | 3, _ => show Act.eval _ (.tmp 57) = .int .i64 (k : Int); go_simp
      | 4, _ => show Act.eval _ (.tmp 59) = .int .i64 (k : Int); go_simp
      | 5, _ => show Act.eval _ (.tmp 62) = .int .i64 (fn : Int); go_simp
    intro bl w' hsix
    have H6 : Hid (Six w.drew w' (fun _ => true) bl (nsf n k fn)) := hsix
    clear hsix
    refine wpAny_ready (rs := [14]) (by kernel_rfl) (by simp) ?_
    refine AllReady.cons rfl (fun K hK => ?_) AllReady.nil
    simp only [puts, sl, nsf]
    go_simp
    refine hK _ _ ?_
    clear hK K
    refine wpAny_ready (rs := [15]) (by kernel_rfl) (by simp) ?_
    refine AllReady.cons rfl (fun K hK => ?_) AllReady.nil
    go_simp
    refine hK _ _ ?_
    clear hK K
    refine wpAny_ready (rs := [16]) (by kernel_rfl) (by simp) ?_
    refine AllReady.cons rfl (fun K hK => ?_) AllReady.nil
    go_simp
    refine hK _ _ ?_
    clear hK K
    refine wpAny_done (by kernel_rfl) ?_ _
    go_wp2
    go_meet
    exact ⟨_, bl, rfl, ini_made c H6.out⟩
  case rest =>
  obtain ⟨M, bl, rfl, HI⟩ := hcut
  have hQ : (Yba.prog.info? 21).map (·.size) = some 1 := by kernel_rfl
  go_upto_region 8 with fail
  go_cut [] (fun wx => Hid (Ini w.heap.size w wx M bl n k fn (cpZ zero0 3 sn zs) c))
  case first => as_aux_lemma =>
    have c6 : wc.cell? ⟨M, 6, none⟩ = some (.slice (some ⟨bl 3, 0, none⟩) k k) := HI.out.m.cell (by omega)
    go_wp2_with (refine wpList_copy_ini rfl (.tmp 70) (.tmp 71) rfl Yba.underlying26 hQ HI.out 3 (by omega) k rfl _ sn _ rfl rfl zs (HS.out.below HI.out.bel) hks ?_; intro w' hI')
    go_meet
    exact hI'
  case rest =>
  clear HI
  rename_i wc0
  have HI := hcut
  clear hcut
  go_upto_region 9 with fail
  go_cut [] (fun wx => Hid (Ini w.heap.size w wx M bl n k fn (ZI k sn rn zh zx zd zs zr zf 0 0) c))
  case first => as_aux_lemma =>
    have c8 : wc.cell? ⟨M, 8, none⟩ = some (.slice (some ⟨bl 5, 0, none⟩) fn fn) := HI.out.m.cell (by omega)
    go_wp2_with (refine wpList_copy_ini rfl (.tmp 76) (.tmp 77) rfl Yba.underlying26 hQ HI.out 5 (by omega) fn rfl _ fn _ rfl rfl zf (HF.out.below HI.out.bel) (Nat.le_refl _) ?_; intro w' hI')
    go_meet
    exact zi_start hI'.out
  case rest =>
  clear HI
  rename_i wc1
  have HI := hcut
  clear hcut
  clear hQ
  -- the refs
  go_upto_block 0 with fail
  go_cut [] (fun wx => Hid (Ini w.heap.size w wx M bl n k fn (ZI k sn rn zh zx zd zs zr zf k 0) c))
  case first => as_aux_lemma =>
    go_wp2_with fail
    go_loopg [14] k (fun gk i wr => ∃ t : Nat, t ≤ k ∧ gk = k - t ∧ i = .int .i64 t ∧ Hid (Ini w.heap.size w wr M bl n k fn (ZI k sn rn zh zx zd zs zr zf t 0) c))
    case atStart => exact ⟨0, Nat.zero_le _, rfl, rfl, HI⟩
    case round =>
      clear HI
      obtain ⟨t, ht, rfl, rfl, HI⟩ := hrel
      by_cases hlt : t < k
      · have htk : (t : Int) < (k : Int) := by omega
        obtain ⟨rv, hrv⟩ : ∃ rv, rv = RZ rn zr t := ⟨_, rfl⟩
        have HV : Hid (rv = RZ rn zr t) := hrv
        clear hrv
        go_upto_if 87 with fail
        go_cut [15] (fun v wx => v = .int .i32 rv ∧ wr = wx)
        case first => as_aux_lemma =>
          by_cases hr : t < rn
          · have hri : (t : Int) < (rn : Int) := by omega
            have HRR : Hid (t < rn) := hr
            obtain ⟨b, off, rfl, hc⟩ := (HR.out.below HI.out.bel) (by omega)
            have ct := hc t hr
            clear hc hr
            go_wp2
            go_meet
            have := HV.out
            rw [RZ, if_pos HRR.out] at this
            rw [this]; exact ⟨rfl, rfl⟩
          · have hri : ¬ (t : Int) < (rn : Int) := by omega
            have HRR : Hid (¬ t < rn) := hr
            clear hr
            go_wp2
            go_meet
            have := HV.out
            rw [RZ, if_neg HRR.out] at this
            rw [this]; exact ⟨rfl, rfl⟩
        case rest =>
        obtain ⟨rfl, rfl⟩ := hcut
        have c7 : wr.cell? ⟨M, 7, none⟩ = some (.slice (some ⟨bl 4, 0, none⟩) k k) := HI.out.m.cell (by omega)
        have cr : wr.cell? ⟨bl 4, t, none⟩ = some (nums (ZI k sn rn zh zx zd zs zr zf t 0 4) t) := (HI.out.row 4 (by omega)).cell hlt
        have fr : wr.frozen? ⟨bl 4, t, none⟩ = false := (HI.out.row 4 (by omega)).frozen t
        go_wp2
        go_roundg (k - (t + 1))
        case measure => omega
        case rel =>
          refine ⟨t + 1, by omega, rfl, by go_num, ?_⟩
          rw [HV.out]
          exact zi_ref HI.out
      · go_wp2
        go_meet
        have : t = k := by omega
        subst this
        exact HI
  case rest =>
  clear HI
  rename_i wc2
  have HI := hcut
  clear hcut
  -- the nodes
  go_upto_block 2 with fail
  go_cut [] (fun wx => Hid (Ini w.heap.size w wx M bl n k fn (ZI k sn rn zh zx zd zs zr zf k n) c))
  case first => as_aux_lemma =>
    go_wp2_with fail
    go_loopg [16] n (fun gk i wr => ∃ t : Nat, t ≤ n ∧ gk = n - t ∧ i = .int .i64 t ∧ Hid (Ini w.heap.size w wr M bl n k fn (ZI k sn rn zh zx zd zs zr zf k t) c))
    case atStart => exact ⟨0, Nat.zero_le _, rfl, rfl, HI⟩
    case round =>
      clear HI
      obtain ⟨t, ht, rfl, rfl, HI⟩ := hrel
      by_cases hlt : t < n
      · have htn : (t : Int) < (n : Int) := by omega
        have htn0 : (0 : Int) ≤ (t : Int) := by omega
        have hk0 : ¬ (k : Int) = 0 := by omega
        obtain ⟨b, off, rfl, hc⟩ := HN.out (by omega)
        obtain ⟨q1, q2, q3, r1, r2, r3, r4⟩ := hc t hlt
        clear hc
        obtain ⟨vh, hvh⟩ : ∃ a, a = zh t := ⟨_, rfl⟩
        obtain ⟨vx, hvx⟩ : ∃ a, a = zx t := ⟨_, rfl⟩
        obtain ⟨vd, hvd⟩ : ∃ a, a = zd t := ⟨_, rfl⟩
        have MH : Hid (wrap32 (vh % (k : Int)) = modk k zh t) := modk_wrap hvh r1 r2 hk1
        have MX : Hid (wrap32 (vx % (k : Int)) = modk k zx t) := modk_wrap hvx r3 r4 hk1
        have MD : Hid (vd = zd t) := hvd
        rw [← hvh] at q1 r1 r2
        rw [← hvx] at q2 r3 r4
        rw [← hvd] at q3
        have Q1 : Hid (w.cell? ⟨b, off + t * 3, none⟩ = some (.int .u8 vh)) := q1
        have Q2 : Hid (w.cell? ⟨b, off + t * 3 + 1, none⟩ = some (.int .u8 vx)) := q2
        have Q3 : Hid (w.cell? ⟨b, off + t * 3 + 2, none⟩ = some (.int .i32 vd)) := q3
        have hB : b < w.heap.size := World.block_lt_of_cell? _ _ q1
        clear hvh hvx hvd q1 q2 q3
        go_upto_region 20 with fail
        go_cut [] (fun wx => Hid (Ini w.heap.size w wx M bl n k fn (updZ (ZI k sn rn zh zx zd zs zr zf k t) 0 t (modk k zh t)) c))
        case first => as_aux_lemma =>
          have d1 : wr.drew.cell? ⟨b, off + t * 3, none⟩ = some (.int .u8 vh) := (HI.out.bel.cell hB).trans Q1.out
          have d0 : wr.drew.cell? ⟨M, 0, none⟩ = some (.slice (some ⟨bl 0, 0, none⟩) n n) := HI.out.m.cell (by omega)
          have dh : wr.drew.cell? ⟨bl 0, t, none⟩ = some (nums ((ZI k sn rn zh zx zd zs zr zf k t) 0) t) := (HI.out.row 0 (by omega)).cell hlt
          have fh : wr.drew.frozen? ⟨bl 0, t, none⟩ = false := (HI.out.row 0 (by omega)).frozen t
          go_region
          go_wp2
          go_meet
          rw [MH.out]
          exact (HI.out.set 0 (by omega) t _).sameHeap rfl (HI.out.set 0 (by omega) t _).bel.drew
        case rest =>
        clear HI
        rename_i wn20
        have HI := hcut
        clear hcut
        go_upto_region 21 with fail
        go_cut [] (fun wx => Hid (Ini w.heap.size w wx M bl n k fn (updZ (updZ (ZI k sn rn zh zx zd zs zr zf k t) 0 t (modk k zh t)) 1 t (modk k zx t)) c))
        case first => as_aux_lemma =>
          have d1 : wc.drew.cell? ⟨b, off + t * 3 + 1, none⟩ = some (.int .u8 vx) := (HI.out.bel.cell hB).trans Q2.out
          have d0 : wc.drew.cell? ⟨M, 1, none⟩ = some (.slice (some ⟨bl 1, 0, none⟩) n n) := HI.out.m.cell (by omega)
          have dh : wc.drew.cell? ⟨bl 1, t, none⟩ = some (nums ((updZ (ZI k sn rn zh zx zd zs zr zf k t) 0 t (modk k zh t)) 1) t) := (HI.out.row 1 (by omega)).cell hlt
          have fh : wc.drew.frozen? ⟨bl 1, t, none⟩ = false := (HI.out.row 1 (by omega)).frozen t
          go_region
          go_wp2
          go_meet
          rw [MX.out]
          exact (HI.out.set 1 (by omega) t _).sameHeap rfl (HI.out.set 1 (by omega) t _).bel.drew
        case rest =>
        clear HI
        rename_i wn21
        have HI := hcut
        clear hcut
        go_upto_region 22 with fail
        have d1 : wc.drew.cell? ⟨b, off + t * 3 + 2, none⟩ = some (.int .i32 vd) := (HI.out.bel.cell hB).trans Q3.out
        have d0 : wc.drew.cell? ⟨M, 2, none⟩ = some (.slice (some ⟨bl 2, 0, none⟩) n n) := HI.out.m.cell (by omega)
        have dh : wc.drew.cell? ⟨bl 2, t, none⟩ = some (nums ((updZ (updZ (ZI k sn rn zh zx zd zs zr zf k t) 0 t (modk k zh t)) 1 t (modk k zx t)) 2) t) := (HI.out.row 2 (by omega)).cell hlt
        have fh : wc.drew.frozen? ⟨bl 2, t, none⟩ = false := (HI.out.row 2 (by omega)).frozen t
        go_region
        clear d1 d0 dh fh
        go_wp2
        go_roundg (n - (t + 1))
        case measure => omega
        case rel =>
          refine ⟨t + 1, by omega, rfl, by go_num, ?_⟩
          rw [MD.out]
          exact zi_node ((HI.out.set 2 (by omega) t _).sameHeap rfl (HI.out.set 2 (by omega) t _).bel.drew)
      · go_wp2
        go_meet
        have : t = n := by omega
        subst this
        exact HI
  case rest =>
  clear HI
  rename_i wc3
  have HI := hcut
  clear hcut
  -- the clones
  obtain ⟨W0, hW0⟩ : ∃ W0, W0 = wc := ⟨_, rfl⟩
  subst hW0
  obtain ⟨bh, bn, bd, bs, br, fb, H, X, D, S, R, L, hm, hL, hHr, hXr, hb0⟩ := want_start hk1 h4 HI.out
  have HM : Hid (MSet w.heap.size F0 O0 W0 M bh bn bd bs br n k H X D S R c (sl fb fn) L) := hm
  have HH : Hid (∀ i, i < n → 0 ≤ H i ∧ H i < k) := hHr
  have HX : Hid (∀ i, i < n → 0 ≤ X i ∧ X i < k) := hXr
  have HB0 : Hid (Below w.heap.size w W0) := hb0
  have HL : Hid (L.length = fn) := hL
  clear hm hHr hXr hb0 hL HI HN HS HR HF HK
  have c0 : W0.cell? ⟨M, 0, none⟩ = some (.slice (some ⟨bh, 0, none⟩) n n) := HM.out.m.cell (by omega)
  go_upto_region 24 with (go_at_call 6; refine (clone_row bh n n H _ (by omega) (RowN.of_row HM.out.h).nums).mono ?_; rintro e w1 ⟨g17, k17, rfl, r17, l17, b1⟩)
  have R17 : Hid (RowN w1 g17 n H ∧ W0.heap.size ≤ g17) := ⟨r17, l17⟩
  have M1 : Hid (MSet w.heap.size F0 O0 w1 M bh bn bd bs br n k H X D S R c (sl fb fn) L) := HM.out.below b1
  have B1 : Hid (Below W0.heap.size W0 w1) := b1
  clear c0 r17 l17 b1
  have c1 : w1.cell? ⟨M, 1, none⟩ = some (.slice (some ⟨bn, 0, none⟩) n n) := M1.out.m.cell (by omega)
  go_upto_region 25 with (go_at_call 6; refine (clone_row bn n n X _ (by omega) (RowN.of_row M1.out.x).nums).mono ?_; rintro e w2 ⟨g18, k18, rfl, r18, l18, b2⟩)
  have R18 : Hid (RowN w2 g18 n X ∧ W0.heap.size ≤ g18) := ⟨r18, Nat.le_trans B1.out.size l18⟩
  have R17' : Hid (RowN w2 g17 n H ∧ W0.heap.size ≤ g17) := ⟨R17.out.1.below b2, R17.out.2⟩
  have M2 : Hid (MSet w.heap.size F0 O0 w2 M bh bn bd bs br n k H X D S R c (sl fb fn) L) := M1.out.below b2
  have B2 : Hid (Below W0.heap.size W0 w2) := B1.out.trans (b2.mono B1.out.size)
  clear c1 r18 l18 b2 M1 B1 R17
  have c2 : w2.cell? ⟨M, 2, none⟩ = some (.slice (some ⟨bd, 0, none⟩) n n) := M2.out.m.cell (by omega)
  go_upto_region 26 with (go_at_call 6; refine (clone_row bd n n D _ (by omega) (RowN.of_row M2.out.d).nums).mono ?_; rintro e w3 ⟨g19, k19, rfl, r19, l19, b3⟩)
  have R19 : Hid (RowN w3 g19 n D ∧ W0.heap.size ≤ g19) := ⟨r19, Nat.le_trans B2.out.size l19⟩
  have R17 : Hid (RowN w3 g17 n H ∧ W0.heap.size ≤ g17) := ⟨R17'.out.1.below b3, R17'.out.2⟩
  have R18' : Hid (RowN w3 g18 n X ∧ W0.heap.size ≤ g18) := ⟨R18.out.1.below b3, R18.out.2⟩
  have M3 : Hid (MSet w.heap.size F0 O0 w3 M bh bn bd bs br n k H X D S R c (sl fb fn) L) := M2.out.below b3
  have B3 : Hid (Below W0.heap.size W0 w3) := B2.out.trans (b3.mono B2.out.size)
  clear c2 r19 l19 b3 M2 B2 R17' R18
  have c6 : w3.cell? ⟨M, 6, none⟩ = some (.slice (some ⟨bs, 0, none⟩) k k) := M3.out.m.cell (by omega)
  go_upto_region 27 with (go_at_call 6; refine (clone_row bs k k S _ (by omega) (RowN.of_row M3.out.s).nums).mono ?_; rintro e w4 ⟨g20, k20, rfl, r20, l20, b4⟩)
  have R20 : Hid (RowN w4 g20 k S ∧ W0.heap.size ≤ g20) := ⟨r20, Nat.le_trans B3.out.size l20⟩
  have R17' : Hid (RowN w4 g17 n H ∧ W0.heap.size ≤ g17) := ⟨R17.out.1.below b4, R17.out.2⟩
  have R18 : Hid (RowN w4 g18 n X ∧ W0.heap.size ≤ g18) := ⟨R18'.out.1.below b4, R18'.out.2⟩
  have R19' : Hid (RowN w4 g19 n D ∧ W0.heap.size ≤ g19) := ⟨R19.out.1.below b4, R19.out.2⟩
  have M4 : Hid (MSet w.heap.size F0 O0 w4 M bh bn bd bs br n k H X D S R c (sl fb fn) L) := M3.out.below b4
  have B4 : Hid (Below W0.heap.size W0 w4) := B3.out.trans (b4.mono B3.out.size)
  clear c6 r20 l20 b4 M3 B3 R17 R18' R19
  have c7 : w4.cell? ⟨M, 7, none⟩ = some (.slice (some ⟨br, 0, none⟩) k k) := M4.out.m.cell (by omega)
  go_upto_region 28 with (go_at_call 6; refine (clone_row br k k R _ (by omega) (RowN.of_row M4.out.r).nums).mono ?_; rintro e w5 ⟨g21, k21, rfl, r21, l21, b5⟩)
  have R21 : Hid (RowN w5 g21 k R ∧ w4.heap.size ≤ g21) := ⟨r21, l21⟩
  have M5 : Hid (MSet w.heap.size F0 O0 w5 M bh bn bd bs br n k H X D S R c (sl fb fn) L) := M4.out.below b5
  have B5 : Hid (Below w4.heap.size w4 w5) := b5
  clear c7 r21 l21 b5
  have c8 : w5.cell? ⟨M, 8, none⟩ = some (.slice (some ⟨fb, 0, none⟩) fn fn) := M5.out.m.cell (by omega)
  go_upto_region 29 with (go_at_call 6; refine (clone_any fb fn fn L _ (by omega) HL.out (free_nums M5.out.f HL.out)).mono ?_; rintro e w6 ⟨v22, rfl, hO6, hn6, b6⟩)
  have HW : Hid (WT w4 w6 g21 k v22 ⟨c, R, L⟩) := WT.start c R21.out.1 R21.out.2 B5.out b6 hO6 hn6
  clear c8 hO6 hn6 b6 M5 B5 R21
  obtain ⟨T, hT⟩ : ∃ T : Nat → St, T = fun j => runM H X D S j ⟨c, R, L⟩ := ⟨_, rfl⟩
  have HT : Hid (T = fun j => runM H X D S j ⟨c, R, L⟩) := hT
  clear hT
  go_upto_block 4 with fail
  go_cut [22, 23] (fun v22 v23 wx => v23 = .int .i64 (T n).c ∧ Hid (WT w4 wx g21 k v22 (T n)))
  case first => as_aux_lemma =>
    go_wp2_with fail
    go_loopg [22, 23, 24] n (fun gk va vb i wr => ∃ j : Nat, j ≤ n ∧ gk = n - j ∧ i = .int .i64 j ∧ vb = .int .i64 (T j).c ∧ Hid (WT w4 wr g21 k va (T j)))
    case atStart => exact ⟨0, Nat.zero_le _, rfl, rfl, by rw [HT.out]; rfl, by rw [HT.out]; exact HW⟩
    case round =>
      clear HW
      obtain ⟨v, hv, rfl, rfl, rfl, HW⟩ := hrel
      by_cases hlt : v < n
      · obtain ⟨tv, htv⟩ : ∃ tv, tv = T v := ⟨_, rfl⟩
        have HTV : Hid (tv = runM H X D S v ⟨c, R, L⟩) := by rw [htv, HT.out]; rfl
        have HTN : Hid (T (v + 1) = stepM H X D S v tv) := by rw [HTV.out, HT.out]; rfl
        have hlen : tv.L.length ≤ 5000 := by have h8 : (runM H X D S v ⟨c, R, L⟩).L.length ≤ L.length + v := runM_len H X D S ⟨c, R, L⟩ v; have := HL.out; rw [HTV.out]; omega
        rw [← htv] at HW
        rw [← htv]
        clear htv
        obtain ⟨s, hs⟩ : ∃ s : Nat, H v = s := ⟨(H v).toNat, by have := HH.out v hlt; omega⟩
        obtain ⟨x, hx⟩ : ∃ x : Nat, X v = x := ⟨(X v).toNat, by have := HX.out v hlt; omega⟩
        have hsk : s < k := by have := HH.out v hlt; omega
        have hxk : x < k := by have := HX.out v hlt; omega
        have HSv : Hid (H v = s) := hs
        have HXv : Hid (X v = x) := hx
        have ch : wr.cell? ⟨g17, v, none⟩ = some (.int .i32 s) := by have := (R17'.out.1.below HW.out.bel).nums v hlt; rwa [hs] at this
        have cx : wr.cell? ⟨g18, v, none⟩ = some (.int .i32 x) := by have := (R18.out.1.below HW.out.bel).nums v hlt; rwa [hx] at this
        have cd : wr.cell? ⟨g19, v, none⟩ = some (.int .i32 (D v)) := (R19'.out.1.below HW.out.bel).nums v hlt
        have cs : wr.cell? ⟨g20, x, none⟩ = some (.int .i32 (S x)) := (R20.out.1.below HW.out.bel).nums x hxk
        have hvn : (v : Int) < (n : Int) := by omega
        have hsk' : (s : Int) < (k : Int) := by omega
        have hxk' : (x : Int) < (k : Int) := by omega
        clear hs hx
        by_cases hsx : s = x
        · have he : (s : Int) = (x : Int) := by rw [hsx]
          have HE : Hid (stepM H X D S v tv = tv) := by
            show _ = _
            rw [stepM, if_pos (by rw [HSv.out, HXv.out, he])]
          clear hsx
          go_wp2
          go_quiet (fail)
          go_wp2
          go_roundg (n - (v + 1))
          case measure => omega
          case rel =>
            refine ⟨v + 1, by omega, rfl, by go_num, by rw [HTN.out, HE.out], ?_⟩
            rw [HTN.out, HE.out]
            exact HW.out.drew _
        · have he : ¬ (s : Int) = (x : Int) := by omega
          obtain ⟨cv, hcv⟩ : ∃ cv, cv = (if S x = D v then wrap64 (tv.c + 1) else tv.c) := ⟨_, rfl⟩
          have HE : Hid (stepM H X D S v tv = ⟨cv, upd tv.R s (wrap32 (tv.R s - 1)), relL tv.R s tv.L⟩) := by
            show _ = _
            rw [stepM, if_neg (by rw [HSv.out, HXv.out]; exact he), HSv.out, HXv.out, hcv]
            rfl
          have HCV : Hid (cv = (if S x = D v then wrap64 (tv.c + 1) else tv.c)) := hcv
          clear hsx hcv
          go_wp2
          go_quiet (fail)
          go_wp2
          go_quiet (fail)
          go_upto_if 200 with fail
          go_cut [23] (fun q wx => q = .int .i64 cv ∧ Hid (WT w4 wx g21 k u22 tv))
          case first => as_aux_lemma =>
            by_cases hc : S x = D v
            · have hcb : (S x == D v) = true := by simp [hc]
              have HC : Hid (S x = D v) := hc
              clear hc
              go_wp2
              go_meet
              refine ⟨?_, (by first | exact HW.out.drew _ | exact (HW.out.drew _).drew _)⟩
              rw [HCV.out, if_pos HC.out]
            · have hcb : (S x == D v) = false := by simp [hc]
              have HC : Hid (¬ S x = D v) := hc
              clear hc
              go_wp2
              go_meet
              refine ⟨?_, (by first | exact HW.out.drew _ | exact (HW.out.drew _).drew _)⟩
              rw [HCV.out, if_neg HC.out]
          case rest =>
          obtain ⟨rfl, HW2⟩ := hcut
          clear HW ch cx cd cs
          have cr : wc.cell? ⟨g21, s, none⟩ = some (.int .i32 (tv.R s)) := HW2.out.r.nums s hsk
          have fr : wc.frozen? ⟨g21, s, none⟩ = false := HW2.out.r.frozen s
          go_upto_region 37 with fail
          go_cut [] (fun wx => Hid (WT w4 wx g21 k u22 ⟨cv, upd tv.R s (wrap32 (tv.R s - 1)), tv.L⟩))
          case first => as_aux_lemma =>
            go_wp2
            go_meet
            exact HW2.out.setRef s _ cv
          case rest =>
          clear HW2 cr fr
          have HW := hcut
          clear hcut
          have cr : wc.cell? ⟨g21, s, none⟩ = some (.int .i32 (wrap32 (tv.R s - 1))) := by
            have := HW.out.r.nums s hsk
            simpa [upd] using this
          have hgs : g21 < wc.heap.size := HW.out.r.lt
          by_cases h0 : wrap32 (tv.R s - 1) = 0
          · have HRL : Hid (relL tv.R s tv.L = tv.L ++ [(s : Int)]) := by unfold relL; rw [if_pos h0]; rfl
            have hb0 : (wrap32 (tv.R s - 1) == 0) = true := by simp [h0]
            clear h0
            have HA : Hid (WT w4 (wc.alloc (.cells #[.int .i32 (s : Int)] 21)) g21 k u22 ⟨cv, upd tv.R s (wrap32 (tv.R s - 1)), tv.L⟩) := HW.out.alloc _
            go_wp2_with (at_builtin; refine wpList_append_own_at _ rfl (.tmp 214) (.tmp 216) 26 rfl (g21 + 1) 21 i0 (.int .i32 0) 1 4 Yba.underlying26 hi hz0 hz1 hz2 rfl (by decide) u22 tv.L.length (tv.L.map (Value.int .i32)) rfl HA.out.f _ 1 1 ([(s : Int)].map (Value.int .i32)) rfl rfl (one_new _ _) (ints_oneCell _ _) (by unfold maxLen; omega) (by omega) (by simp; omega) ?_; intro v' w' hO hg hn' hbk; have F : Hid (WT w4 w' g21 k v' ⟨cv, upd tv.R s (wrap32 (tv.R s - 1)), tv.L ++ [(s : Int)]⟩) := HA.out.appended hO hg (fun e => absurd (hn'.1 e).2 (by decide)); clear hO hg hn' hbk)
            go_roundg (n - (v + 1))
            case measure => omega
            case rel =>
              refine ⟨v + 1, by omega, rfl, by go_num, by rw [HTN.out, HE.out], ?_⟩
              rw [HTN.out, HE.out, HRL.out]
              exact F
          · have HRL : Hid (relL tv.R s tv.L = tv.L) := by unfold relL; rw [if_neg h0]; rfl
            have hb0 : (wrap32 (tv.R s - 1) == 0) = false := by simp [h0]
            clear h0
            go_wp2
            go_roundg (n - (v + 1))
            case measure => omega
            case rel =>
              refine ⟨v + 1, by omega, rfl, by go_num, by rw [HTN.out, HE.out], ?_⟩
              rw [HTN.out, HE.out, HRL.out]
              exact HW
      · go_wp2
        go_meet
        have : v = n := by omega
        subst this
        exact ⟨rfl, HW⟩
  case rest =>
  obtain ⟨rfl, HW'⟩ := hcut
  have MK : Hid (MSet w.heap.size (fun b => W0.heap.size ≤ b ∧ b < wc.heap.size) (fun b => wc.heap[b]?) wc M bh bn bd bs br n k H X D S R c (sl fb fn) L) := HM.out.keep (B4.out.trans (HW'.out.bel.mono B4.out.size))
  have hBs : w.heap.size ≤ wc.heap.size := Nat.le_trans HB0.out.size (Nat.le_trans B4.out.size HW'.out.bel.size)
  have HBc : Hid (Below w.heap.size w wc) := HB0.out.trans ((B4.out.trans (HW'.out.bel.mono B4.out.size)).mono HB0.out.size)
  have hL2 : L.length ≤ 2000 := by rw [HL.out]; omega
  go_upto_region 41 with (go_at_call 7; refine (endRound_any w.heap.size _ _ _ M bh bn bd bs br n k H X D S ⟨c, R, L⟩ (sl fb fn) MK.out HH.out HX.out h1 hk2 hL2 hBs).mono ?_; rintro e w8 ⟨rfl, hER⟩)
  obtain ⟨fv, m8, b8⟩ := hER
  obtain ⟨tn, htn⟩ : ∃ tn, tn = T n := ⟨_, rfl⟩
  have htr : runM H X D S n ⟨c, R, L⟩ = tn := by rw [htn, HT.out]
  rw [htr] at m8
  rw [← htn] at HW'
  rw [← htn]
  have hlen : tn.L.length ≤ 5000 := by have h8 : (runM H X D S n ⟨c, R, L⟩).L.length ≤ L.length + n := runM_len H X D S ⟨c, R, L⟩ n; have := HL.out; rw [← htr]; omega
  have keep : ∀ b, W0.heap.size ≤ b → b < wc.heap.size → w8.heap[b]? = wc.heap[b]? := fun b h1 h2 => (m8.kp b ⟨h1, h2⟩).2.1
  have s4 : W0.heap.size ≤ w4.heap.size := B4.out.size
  have q18 := R18.out.1.below HW'.out.bel
  have q19 := R19'.out.1.below HW'.out.bel
  have q20 := R20.out.1.below HW'.out.bel
  have p18 := q18.of_block (keep g18 R18.out.2 q18.lt)
  have p19 := q19.of_block (keep g19 R19'.out.2 q19.lt)
  have p20 := q20.of_block (keep g20 R20.out.2 q20.lt)
  have p21 := HW'.out.r.of_block (keep g21 (Nat.le_trans s4 HW'.out.g4) HW'.out.r.lt)
  obtain ⟨g22, k22, rfl, l22, q22⟩ := own_row HW'.out.f HW'.out.nn
  have p22 := q22.of_block (keep g22 (Nat.le_trans s4 (Nat.le_trans HW'.out.g4 (by omega))) q22.lt)
  obtain ⟨gf, kf, rfl, lf, pf⟩ := own_row m8.f m8.nn
  have ph : RowN w8 bh n X := RowN.of_row (m8.h.congr (fun i hi => by unfold nums heldAt; rw [if_pos hi]))
  obtain ⟨ln, hln⟩ : ∃ ln, ln = tn.L.length := ⟨_, rfl⟩
  rw [← hln] at p22 pf hlen m8
  rw [← hln]
  have P1 : Hid (RowN w8 bh n X ∧ RowN w8 bn n X ∧ RowN w8 bd n D ∧ RowN w8 bs k S ∧ RowN w8 br k tn.R ∧ RowN w8 gf ln (fun i => tn.L.getD i 0)) := ⟨ph, RowN.of_row m8.x, RowN.of_row m8.d, RowN.of_row m8.s, RowN.of_row m8.r, pf⟩
  have P2 : Hid (RowN w8 g18 n X ∧ RowN w8 g19 n D ∧ RowN w8 g20 k S ∧ RowN w8 g21 k tn.R ∧ RowN w8 g22 ln (fun i => tn.L.getD i 0)) := ⟨p18, p19, p20, p21, p22⟩
  have MC : Hid (∀ wx, Below w8.heap.size w8 wx → ∀ i, i < 10 → wx.cell? ⟨M, i, none⟩ = some (mcells bh bn bd bs br n k tn.c (.slice (some ⟨gf, 0, none⟩) ln kf) i)) := fun wx hb i hi => (hb.cell m8.m.lt).trans (m8.m.cell hi)
  have HB8 : Hid (Below w.heap.size w w8 ∧ w.heap.size ≤ w8.heap.size) := ⟨HBc.out.trans b8, Nat.le_trans hBs b8.size⟩
  clear m8 b8 htr htn keep s4 q18 q19 q20 p18 p19 p20 p21 q22 p22 l22 lf pf ph hln HW' HT MK hBs HBc hL2 HH HX HL HM HB0 R17' R18 R19' R20 B4 M4
  have HB : Hid (Below w8.heap.size w8 w8) := Below.refl _ _
  have c0 : w8.cell? ⟨M, 0, none⟩ = some (.slice (some ⟨bh, 0, none⟩) n n) := MC.out _ HB.out 0 (by omega)
  have hn5 : n ≤ 100000 := by omega
  have hk5 : k ≤ 100000 := by omega
  have hl5 : ln ≤ 100000 := by omega
  go_wp2_with (go_at_call 8; (first | with_reducible refine (equal_at HB.out P1.out.1 P2.out.1 hn5).mono ?_ | with_reducible refine (equal_at HB.out P1.out.2.1 P2.out.1 hn5).mono ?_ | with_reducible refine (equal_at HB.out P1.out.2.2.1 P2.out.2.1 hn5).mono ?_ | with_reducible refine (equal_at HB.out P1.out.2.2.2.1 P2.out.2.2.1 hk5).mono ?_ | with_reducible refine (equal_at HB.out P1.out.2.2.2.2.1 P2.out.2.2.2.1 hk5).mono ?_ | with_reducible refine (equal_at HB.out P1.out.2.2.2.2.2 P2.out.2.2.2.2 hl5).mono ?_); rintro e w9 ⟨rfl, hb9⟩; have HB : Hid (Below w8.heap.size w8 w9) := hb9; have c1 : w9.cell? ⟨M, 1, none⟩ = some (.slice (some ⟨bn, 0, none⟩) n n) := MC.out _ hb9 1 (by omega); have c2 : w9.cell? ⟨M, 2, none⟩ = some (.slice (some ⟨bd, 0, none⟩) n n) := MC.out _ hb9 2 (by omega); have c3 : w9.cell? ⟨M, 3, none⟩ = some (.int .i64 tn.c) := MC.out _ hb9 3 (by omega); have c6 : w9.cell? ⟨M, 6, none⟩ = some (.slice (some ⟨bs, 0, none⟩) k k) := MC.out _ hb9 6 (by omega); have c7 : w9.cell? ⟨M, 7, none⟩ = some (.slice (some ⟨br, 0, none⟩) k k) := MC.out _ hb9 7 (by omega); have c8 : w9.cell? ⟨M, 8, none⟩ = some (.slice (some ⟨gf, 0, none⟩) ln kf) := MC.out _ hb9 8 (by omega); clear hb9)
  go_ret
  exact ⟨rfl, HB8.out.1.trans (HB.out.mono HB8.out.2)⟩

set_option maxHeartbeats 1000000 in
theorem bm_long (na sa ra fa : Option Addr) (n nc sn sc rn rc fn fc : Nat) (c : Int) (w : World) (h : 1024 < n ∨ 1024 < sn ∨ 1024 < rn ∨ 1024 < fn) :
    Calls Yba.prog 4 #[.slice na n nc, .slice sa sn sc, .slice ra rn rc, .slice fa fn fc, .int .i64 c] w fun e w' => e = .returned (.bool true) ∧ Below w.heap.size w w' := by
  by_cases h1 : 1024 < n
  · have g1 : (1024 : Int) < (n : Int) := by omega
    clear h h1
    go_enter Yba.func4, Yba.ntmps4
    go_wp2
    go_ret
    exact ⟨rfl, Below.refl _ _⟩
  · have g1 : ¬ (1024 : Int) < (n : Int) := by omega
    by_cases h2 : 1024 < sn
    · have g2 : (1024 : Int) < (sn : Int) := by omega
      clear h h1 h2
      go_enter Yba.func4, Yba.ntmps4
      go_wp2
      go_ret
      exact ⟨rfl, Below.refl _ _⟩
    · have g2 : ¬ (1024 : Int) < (sn : Int) := by omega
      by_cases h3 : 1024 < rn
      · have g3 : (1024 : Int) < (rn : Int) := by omega
        clear h h1 h2 h3
        go_enter Yba.func4, Yba.ntmps4
        go_wp2
        go_ret
        exact ⟨rfl, Below.refl _ _⟩
      · have g3 : ¬ (1024 : Int) < (rn : Int) := by omega
        have g4 : (1024 : Int) < (fn : Int) := by omega
        clear h h1 h2 h3
        go_enter Yba.func4, Yba.ntmps4
        go_wp2
        go_ret
        exact ⟨rfl, Below.refl _ _⟩
end Go.Proofs.Ybulkcfaq.Sets
