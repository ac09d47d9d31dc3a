/-
  LawS4052AScript: the walk of the law.
-/
import Derived.Test.YbulkcewwOps
namespace Go.Proofs.Ybulkceww.Pipe
open Go.RowKit
set_option linter.unusedVariables false
set_option maxRecDepth 100000

def ρ0 : Nat → Nat := fun _ => 0
def Sn : Nat → Prop := fun r => r ≠ 0
theorem fresh0 (w : World) : Fresh ρ0 w := fun _ _ => rfl
theorem smSn : ∀ r, Sm r → Sn r := by unfold Sm Sn; intro r h; omega

/-- n operations lie where a slice points to: two bytes each. -/
def SrcO (w : World) (a : Option Addr) (n : Nat) (o b : Nat → Int) : Prop :=
  0 < n → ∃ k off, a = some ⟨k, off, none⟩ ∧ ∀ j, j < n → w.cell? ⟨k, off + j * 2, none⟩ = some (.int .u8 (o j)) ∧ w.cell? ⟨k, off + j * 2 + 1, none⟩ = some (.int .u8 (b j)) ∧ 0 ≤ o j ∧ o j < 256

/-- Behind t operations. -/
def INV (w wr : World) (P A B RA RB t : Nat) (vm v8 v9 v10 : Value) : Prop :=
  ∃ ρr iv md hv hb lA lB HL TA TB, vm = .string md ∧ GM ρr wr P A B RA RB iv md hv hb lA lB HL TA TB ∧ GV ρr wr v8 v9 v10 HL TB TA ∧ (md = dS ∨ md = hS ∨ md = pS) ∧ HL.length + TB.length ≤ t ∧ TA.length ≤ t ∧ (HL = [] → v8 = .slice none 0 0) ∧ Upd Sn ρ0 w ρr wr

theorem start_gm {ρ : Nat → Nat} {w : World} {P A B : Nat} (p : Pip ρ w P 0 0 (.slice none 0 0) 0 false) (a : EndS ρ w 2 A P B .nilIface (.string dS) (.slice none 0 0)) (b : EndS ρ w 3 B P A .nilIface (.string dS) (.slice none 0 0)) (hf : Fresh ρ w) :
    ∃ ρ', Pip ρ' ((w.alloc (.cells #[.slice none 0 0] 29)).alloc (.cells #[.slice none 0 0] 29)) P 0 0 (.slice none 0 0) (0 : Nat) false ∧ EndS ρ' ((w.alloc (.cells #[.slice none 0 0] 29)).alloc (.cells #[.slice none 0 0] 29)) 2 A P B .nilIface (.string dS) (.slice none 0 0) ∧
      EndS ρ' ((w.alloc (.cells #[.slice none 0 0] 29)).alloc (.cells #[.slice none 0 0] 29)) 3 B P A .nilIface (.string dS) (.slice none 0 0) ∧ Rcv ρ' ((w.alloc (.cells #[.slice none 0 0] 29)).alloc (.cells #[.slice none 0 0] 29)) 4 w.heap.size (.slice none 0 0) ∧
      Rcv ρ' ((w.alloc (.cells #[.slice none 0 0] 29)).alloc (.cells #[.slice none 0 0] 29)) 5 (w.heap.size + 1) (.slice none 0 0) ∧ Upd (fun _ => False) ρ w ρ' ((w.alloc (.cells #[.slice none 0 0] 29)).alloc (.cells #[.slice none 0 0] 29)) := by
  have u1 : Upd (fun _ => False) ρ w (updR ρ w.heap.size 4) (w.alloc (.cells #[.slice none 0 0] 29)) := (Upd.refl hf).allocR _ 4
  have s1 : (w.alloc (.cells #[.slice none 0 0] 29)).heap.size = w.heap.size + 1 := by simp
  have r1 : (w.alloc (.cells #[.slice none 0 0] 29)).rowIs w.heap.size 29 1 (fun _ => .slice none 0 0) := World.rowIs_alloc w #[.slice none 0 0] 29 _ (fun i hi => by match i, hi with | 0, _ => rfl)
  have u2 : Upd (fun _ => False) ρ w (updR (updR ρ w.heap.size 4) (w.alloc (.cells #[.slice none 0 0] 29)).heap.size 5) ((w.alloc (.cells #[.slice none 0 0] 29)).alloc (.cells #[.slice none 0 0] 29)) := u1.allocR _ 5
  refine ⟨_, p.keep u2 (fun h => h), a.keep u2 (fun h => h), b.keep u2 (fun h => h), ⟨?_, r1.alloc _⟩, ⟨?_, ?_⟩, u2⟩
  · simp [updR, s1]
  · simp [updR, s1]
  · rw [← s1]; exact World.rowIs_alloc _ #[.slice none 0 0] 29 _ (fun i hi => by match i, hi with | 0, _ => rfl)

theorem below_of {w w' : World} {ρ' : Nat → Nat} (u : Upd Sn ρ0 w ρ' w') : Below w.heap.size w w' := ⟨u.os, u.tape, u.output, u.size, fun k hk => u.keep k hk (fun h => h rfl)⟩

theorem vl_nilv {ρ : Nat → Nat} {w : World} {r : Nat} : VL ρ w r (.slice none 0 0) [] := vl_nil r

theorem one_new2 (w : World) (o : Obj) (v : Value) (t : TypeId) : ∀ j u, [v][j]? = some u → ((w.alloc o).alloc (.cells #[v] t)).cell? ((⟨w.heap.size + 1, 0, none⟩ : Addr).add j) = some u := by
  intro j u hj
  have := cell_one_new (w.alloc o) v t j u hj
  rwa [show (w.alloc o).heap.size = w.heap.size + 1 by simp] at this

theorem vl_some {ρ : Nat → Nat} {w : World} {r n cap : Nat} {av : Option Addr} {L : List Int} (h : VL ρ w r (.slice av n cap) L) (hn : n = L.length) (h0 : 0 < L.length) : ∃ g, av = some ⟨g, 0, none⟩ := by
  obtain ⟨g, b, c, e, _⟩ := vl_cell h hn (t := 0) (by omega)
  exact ⟨g, e⟩

theorem vl_src {ρ : Nat → Nat} {w : World} {r g cap : Nat} {L : List Int} (h : VL ρ w r (.slice (some ⟨g, 0, none⟩) L.length cap) L) :
    ∃ xs : List Value, xs.length = L.length * 1 ∧ (∀ j u, xs[j]? = some u → w.cell? ((⟨g, 0, none⟩ : Addr).add j) = some u) ∧ (∀ u ∈ xs, u.oneCell' = true) ∧ ∀ i, i < L.length → ∃ b c, xs[i]? = some (.slice (some ⟨b, 0, none⟩) 1 c) ∧ Msu ρ w b (L.getD i 0) := by
  obtain ⟨xs, ho, _, hx⟩ := h
  have hl := ho.1
  rcases ho.2 with ⟨h1, _⟩ | ⟨g', cap', cur, hv, _, hg, _, _, hs, htk⟩
  · simp at h1
  simp at hv
  obtain ⟨rfl, rfl⟩ := hv
  refine ⟨xs, hl, fun j u hj => ?_, fun u hu => ?_, hx⟩
  · have hlt : j < xs.length := (List.getElem?_eq_some_iff.1 hj).1
    rw [Addr.add_lit, Nat.zero_add]
    rw [← htk, List.getElem?_take_of_lt (by omega)] at hj
    simp [World.cell?, hg]
    simpa using hj
  · obtain ⟨i, hi, rfl⟩ := List.getElem_of_mem hu
    obtain ⟨b, c, e1, _⟩ := hx i (by omega)
    rw [List.getElem?_eq_getElem hi] at e1
    rw [Option.some.inj e1]; rfl

theorem eq_drew {ρ : Nat → Nat} {w : World} {r1 r2 : Nat} {v1 v2 : Value} {L : List Int} (j : Nat) (hf : Fresh ρ w) (h1 : VL ρ w r1 v1 L) (h2 : VL ρ w r2 v2 L) (hlen : L.length ≤ 50000) :
    Calls Yba.prog 10 #[v1, v2] (w.drewN j) fun e w' => e = .returned (.bool true) ∧ ∃ j', w' = w.drewN j' := by
  have u : Upd (fun _ => False) ρ w ρ (w.drewN j) := (Upd.refl hf).drewN j
  refine (eq_any ρ (w.drewN j) r1 r2 v1 v2 L (h1.keep u (fun h => h) (fun h => h)) (h2.keep u (fun h => h) (fun h => h)) hlen).mono ?_
  rintro e w' ⟨rfl, j', rfl⟩
  exact ⟨rfl, j + j', by rw [World.drewN_drewN]⟩

set_option maxHeartbeats 20000000 in
theorem law_main (oa : Option Addr) (n cap : Nat) (zo zb : Nat → Int) (w : World) (hS : SrcO w oa n zo zb) (hn : n ≤ 1024) :
    Calls Yba.prog 3 #[.slice oa n cap] w fun e w' => e = .returned (.bool true) ∧ Below w.heap.size w w' := by
  have HS : Hid (SrcO w oa n zo zb) := hS
  clear hS
  have g1 : ¬ (1024 : Int) < (n : Int) := by omega
  obtain ⟨i0, hi, hz0, hz1, hz2⟩ := info_parts info35
  go_enter Yba.func3, Yba.ntmps3
  go_upto_region 4 with (go_at_call 4; refine (new_any ρ0 w (fresh0 w)).mono ?_; rintro e w1 ⟨ρ1, P, A, B, rfl, p1, a1, b1, u1⟩)
  have S1 : Hid (Pip ρ1 w1 P 0 0 (.slice none 0 0) 0 false ∧ EndS ρ1 w1 2 A P B .nilIface (.string dS) (.slice none 0 0) ∧ EndS ρ1 w1 3 B P A .nilIface (.string dS) (.slice none 0 0) ∧ Upd (fun _ => False) ρ0 w ρ1 w1) := ⟨p1, a1, b1, u1⟩
  clear p1 a1 b1 u1
  go_upto_region 6 with fail
  obtain ⟨ρ3, p3, a3, b3, ra3, rb3, u3⟩ := start_gm S1.out.1 S1.out.2.1 S1.out.2.2.1 S1.out.2.2.2.fresh
  have U3 : Hid (Upd Sn ρ0 w ρ3 ((w1.alloc (.cells #[.slice none 0 0] 29)).alloc (.cells #[.slice none 0 0] 29))) := (S1.out.2.2.2.mono (fun _ h => h.elim)).trans (u3.mono (fun _ h => h.elim))
  have S3 : Hid (Pip ρ3 ((w1.alloc (.cells #[.slice none 0 0] 29)).alloc (.cells #[.slice none 0 0] 29)) P 0 0 (.slice none 0 0) (0 : Nat) false ∧ EndS ρ3 ((w1.alloc (.cells #[.slice none 0 0] 29)).alloc (.cells #[.slice none 0 0] 29)) 2 A P B .nilIface (.string dS) (.slice none 0 0) ∧ EndS ρ3 ((w1.alloc (.cells #[.slice none 0 0] 29)).alloc (.cells #[.slice none 0 0] 29)) 3 B P A .nilIface (.string dS) (.slice none 0 0) ∧ Rcv ρ3 ((w1.alloc (.cells #[.slice none 0 0] 29)).alloc (.cells #[.slice none 0 0] 29)) 4 w1.heap.size (.slice none 0 0) ∧ Rcv ρ3 ((w1.alloc (.cells #[.slice none 0 0] 29)).alloc (.cells #[.slice none 0 0] 29)) 5 (w1.heap.size + 1) (.slice none 0 0)) := ⟨p3, a3, b3, ra3, rb3⟩
  clear p3 a3 b3 ra3 rb3 u3 S1
  generalize (w1.alloc (.cells #[.slice none 0 0] 29)).alloc (.cells #[.slice none 0 0] 29) = w3 at *
  obtain ⟨RA, hRA⟩ : ∃ RA, RA = w1.heap.size := ⟨_, rfl⟩
  rw [← hRA] at S3 ⊢
  obtain ⟨RB, hRB⟩ : ∃ RB, RB = RA + 1 := ⟨_, rfl⟩
  rw [← hRB] at S3 ⊢
  clear hRA hRB
  go_upto_region 7 with (go_at_call 5; refine (attach_any ρ3 w3 P A B 2 RA 0 (.slice none 0 0) (0 : Nat) false .nilIface (.string dS) (.slice none 0 0) U3.out.fresh S3.out.1 S3.out.2.1 (by decide)).mono ?_; rintro e w4 ⟨rfl, p4, a4, u4⟩)
  have S4 : Hid (Pip ρ3 w4 P 0 0 (.slice none 0 0) (0 : Nat) false ∧ EndS ρ3 w4 2 A P B (ifc RA) (.string dS) (.slice none 0 0) ∧ EndS ρ3 w4 3 B P A .nilIface (.string dS) (.slice none 0 0) ∧ Rcv ρ3 w4 4 RA (.slice none 0 0) ∧ Rcv ρ3 w4 5 RB (.slice none 0 0)) := ⟨p4, a4, S3.out.2.2.1.keep u4 (by decide), S3.out.2.2.2.1.keep u4 (by decide), S3.out.2.2.2.2.keep u4 (by decide)⟩
  have U4 : Hid (Upd Sn ρ0 w ρ3 w4) := U3.out.trans (u4.mono (fun r h => by unfold Sn; omega))
  clear p4 a4 u4 S3 U3
  go_upto_region 8 with (go_at_call 5; refine (attach_any ρ3 w4 P B A 3 RB 0 (.slice none 0 0) (0 : Nat) false .nilIface (.string dS) (.slice none 0 0) U4.out.fresh S4.out.1 S4.out.2.2.1 (by decide)).mono ?_; rintro e w5 ⟨rfl, p5, b5, u5⟩)
  have HI : Hid (INV w w5 P A B RA RB 0 (.string dS) (.slice none 0 0) (.slice none 0 0) (.slice none 0 0)) :=
    ⟨ρ3, .slice none 0 0, dS, .slice none 0 0, .slice none 0 0, .slice none 0 0, .slice none 0 0, [], [], [], rfl,
      ⟨u5.fresh, p5, ⟨[], ⟨rfl, Or.inl ⟨rfl, rfl⟩⟩, (fun k e => by simp [Value.ownBlock] at e), (fun i hi => absurd hi (by simp))⟩, S4.out.2.1.keep u5 (by decide), b5, S4.out.2.2.2.1.keep u5 (by decide), S4.out.2.2.2.2.keep u5 (by decide), vl_nilv, vl_nilv, vl_nilv, vl_nilv⟩,
      ⟨vl_nilv, vl_nilv, vl_nilv⟩, Or.inl rfl, Nat.le_refl _, Nat.le_refl _, fun _ => rfl, U4.out.trans (u5.mono (fun r h => by unfold Sn; omega))⟩
  clear p5 b5 u5 S4 U4
  go_wp2_with fail
  go_loopg [7, 8, 9, 10, 34] n (fun gk vm v8 v9 v10 i wr => ∃ t : Nat, t ≤ n ∧ gk = n - t ∧ i = .int .i64 t ∧ Hid (INV w wr P A B RA RB t vm v8 v9 v10))
  case atStart => exact ⟨0, Nat.zero_le _, rfl, rfl, HI⟩
  case round =>
    clear HI
    obtain ⟨t, ht, rfl, rfl, HI⟩ := hrel
    by_cases hlt : t < n
    · have htn : (t : Int) < (n : Int) := by omega
      have ht0 : (0 : Int) ≤ (t : Int) := by omega
      obtain ⟨kb, off, rfl, hc⟩ := HS.out (by omega)
      obtain ⟨q1, q2, q3, q4⟩ := hc t hlt
      clear hc
      obtain ⟨x, hx⟩ : ∃ x, x = zb t := ⟨_, rfl⟩
      obtain ⟨o, hox⟩ : ∃ o, o = zo t := ⟨_, rfl⟩
      rw [← hx] at q2
      rw [← hox] at q1 q3 q4
      clear hx hox
      obtain ⟨ρr, iv, md, hv, hb, lA, lB, HL, TA, TB, hvm, gm, gv, hmd, hl1, hl2, hnil, uu⟩ := HI.out
      have d1 : wr.cell? ⟨kb, off + t * 2, none⟩ = some (.int .u8 o) := uu.cell q1 (fun h => h rfl)
      have d2 : wr.cell? ⟨kb, off + t * 2 + 1, none⟩ = some (.int .u8 x) := uu.cell q2 (fun h => h rfl)
      have hr5 : 0 ≤ o % 5 ∧ o % 5 < 5 := ⟨Int.emod_nonneg _ (by decide), Int.emod_lt_of_pos _ (by decide)⟩
      have GMr : Hid (GM ρr wr P A B RA RB iv md hv hb lA lB HL TA TB) := gm
      have GVr : Hid (GV ρr wr u8 u9 u10 HL TB TA) := gv
      have UU : Hid (Upd Sn ρ0 w ρr wr) := uu
      have HL1 : Hid (HL.length + TB.length ≤ t ∧ TA.length ≤ t ∧ (HL = [] → u8 = .slice none 0 0)) := ⟨hl1, hl2, hnil⟩
      clear gm gv hl1 hl2 hnil uu HI q1 q2
      go_upto_block 1 with fail
      go_cut [7, 8, 9, 10] (fun vm v8 v9 v10 wx => Hid (INV w wx P A B RA RB (t + 1) vm v8 v9 v10))
      case first =>
        subst hvm
        go_upto_block 2 with fail
        have ub : Upd (fun _ => False) ρr wr ρr (wr.alloc (.cells #[.int .u8 o, .int .u8 x] 33)) := (Upd.refl GMr.out.fr).alloc _
        have GMb : Hid (GM ρr (wr.alloc (.cells #[.int .u8 o, .int .u8 x] 33)) P A B RA RB iv md hv hb lA lB HL TA TB) := GMr.out.kept ub (fun _ h => h.elim)
        have GVb : Hid (GV ρr (wr.alloc (.cells #[.int .u8 o, .int .u8 x] 33)) u8 u9 u10 HL TB TA) := GVr.out.kept ub (fun h => h) (fun h => h) (fun h => h) (fun h => h)
        have Ub : Hid (Upd Sn ρ0 w ρr (wr.alloc (.cells #[.int .u8 o, .int .u8 x] 33))) := UU.out.alloc _
        have xb : (wr.alloc (.cells #[.int .u8 o, .int .u8 x] 33)).cell? ⟨wr.heap.size, 1, none⟩ = some (.int .u8 x) := by simp
        have HRB : Hid (ρr wr.heap.size = 0) := GMr.out.fr _ (Nat.le_refl _)
        clear ub d1 d2 GMr GVr UU
        generalize (wr.alloc (.cells #[.int .u8 o, .int .u8 x] 33)) = w1 at *
        obtain ⟨r, hr⟩ : ∃ r, r = o % 5 := ⟨_, rfl⟩
        rw [← hr] at hr5 ⊢
        clear hr
        have hcase : r = 0 ∨ r = 1 ∨ r = 2 ∨ r = 3 ∨ r = 4 := by omega
        clear hr5
        rcases hcase with rfl | rfl | rfl | rfl | rfl
        · -- Drop
          clear xb
          go_wp2_with (go_at_call 6; refine (op_drop GMb.out).mono ?_; rintro e w2 ⟨rfl, g2, u2⟩)
          go_meet
          exact ⟨ρr, iv, pS, hv, hb, lA, lB, HL, TA, TB, rfl, g2, GVb.out.kept u2 (by unfold Sm; decide) (by unfold Sm; decide) (by unfold Sm; decide) (by unfold Sm; decide), Or.inr (Or.inr rfl), by have := HL1.out.1; omega, by have := HL1.out.2.1; omega, HL1.out.2.2, Ub.out.trans (u2.mono smSn)⟩
        · -- Hold
          clear xb
          go_wp2_with (go_at_call 7; refine (op_hold GMb.out).mono ?_; rintro e w2 ⟨rfl, g2, u2⟩)
          go_meet
          exact ⟨ρr, iv, hS, hv, hb, lA, lB, HL, TA, TB, rfl, g2, GVb.out.kept u2 (by unfold Sm; decide) (by unfold Sm; decide) (by unfold Sm; decide) (by unfold Sm; decide), Or.inr (Or.inl rfl), by have := HL1.out.1; omega, by have := HL1.out.2.1; omega, HL1.out.2.2, Ub.out.trans (u2.mono smSn)⟩
        · -- Deliver
          clear xb
          obtain ⟨a9, c9, h9⟩ := vl_shape GVb.out.b
          subst h9
          obtain ⟨xs9, ho9, hxl9, hk9, hx9⟩ := vl_owns GVb.out.b
          have hle9 : TB.length ≤ c9 := by
            rcases ho9.2 with ⟨h1, h2⟩ | ⟨g, cp, cur, hv9, _, _, hc9, _⟩
            · simp at h1; omega
            · simp at hv9; omega
          clear ho9 hxl9 hk9 hx9
          have hl20 : TB.length ≤ 20000 := by have := HL1.out.1; omega
          have hl21 : HL.length ≤ 20000 := by have := HL1.out.1; omega
          by_cases hHL : HL = []
          · have h8 := HL1.out.2.2 hHL
            have HHL : Hid (HL = []) := hHL
            clear hHL
            subst h8
            go_wp2_with (first | (go_at_call 8; refine (op_flush GMb.out hl20 hl21).mono ?_; rintro e w2 ⟨rfl, ρ2, iv2, lB2, g2, u2⟩) | (at_builtin; refine wpList_append_nothing rfl (.tmp 53) (.tmp 54) 27 rfl 35 i0 Yba.underlying27 hi a9 TB.length c9 rfl hle9 rfl ?_))
            go_meet
            have gv2 := GVb.out.kept u2 (by unfold Sm; decide) (by unfold Sm; decide) (by unfold Sm; decide) (by unfold Sm; decide)
            rw [HHL.out, List.append_nil] at g2
            exact ⟨ρ2, iv2, dS, _, hb, lA, lB2, [], TA, TB, rfl, g2, ⟨vl_nilv, gv2.b, gv2.a⟩, Or.inl rfl, by have := HL1.out.1; simp; omega, by have := HL1.out.2.1; omega, fun _ => rfl, Ub.out.trans (u2.mono smSn)⟩
          · have hHL0 : 0 < HL.length := List.length_pos_iff.2 hHL
            obtain ⟨a8, c8, h8⟩ := vl_shape GVb.out.h
            subst h8
            obtain ⟨g8, h8⟩ := vl_some GVb.out.h rfl hHL0
            subst h8
            go_wp2_with (first | (go_at_call 8; refine (op_flush GMb.out hl20 hl21).mono ?_; rintro e w2 ⟨rfl, ρ2, iv2, lB2, g2, u2⟩; have G2 : Hid (GM ρ2 w2 P A B RA RB iv2 dS (.slice none 0 0) hb lA lB2 [] TA (TB ++ HL)) := g2; have U2 : Hid (Upd Sm ρr w1 ρ2 w2) := u2; clear g2 u2; obtain ⟨xs9, ho9, hxl9, hk9, hx9⟩ := vl_owns ((GVb.out.kept U2.out (by unfold Sm; decide) (by unfold Sm; decide) (by unfold Sm; decide) (by unfold Sm; decide)).b); obtain ⟨xs8, hxl8, hn8, h18, hx8⟩ := vl_src ((GVb.out.kept U2.out (by unfold Sm; decide) (by unfold Sm; decide) (by unfold Sm; decide) (by unfold Sm; decide)).h); have H9 : Hid (w2.ownsRow 0 35 1 (.slice a9 TB.length c9) TB.length xs9 ∧ xs9.length = TB.length ∧ (∀ k, (Value.slice a9 TB.length c9).ownBlock = some k → ρ2 k = 12) ∧ ∀ i, i < TB.length → ∃ b c, xs9[i]? = some (.slice (some ⟨b, 0, none⟩) 1 c) ∧ Msu ρ2 w2 b (TB.getD i 0)) := ⟨ho9, hxl9, hk9, hx9⟩; have H8 : Hid (xs8.length = HL.length * 1 ∧ (∀ j u, xs8[j]? = some u → w2.cell? ((⟨g8, 0, none⟩ : Addr).add j) = some u) ∧ (∀ u ∈ xs8, u.oneCell' = true) ∧ ∀ i, i < HL.length → ∃ b c, xs8[i]? = some (.slice (some ⟨b, 0, none⟩) 1 c) ∧ Msu ρ2 w2 b (HL.getD i 0)) := ⟨hxl8, hn8, h18, hx8⟩; clear ho9 hxl9 hk9 hx9 hxl8 hn8 h18 hx8) | (at_builtin; refine wpList_append_own_at _ rfl (.tmp 53) (.tmp 54) 27 rfl 0 35 i0 (.slice none 0 0) 1 24 Yba.underlying27 hi hz0 hz1 hz2 rfl (by decide) (.slice a9 TB.length c9) TB.length xs9 rfl H9.out.1 ⟨g8, 0, none⟩ HL.length c8 xs8 rfl H8.out.1 H8.out.2.1 H8.out.2.2.1 (by unfold maxLen; omega) (by omega) (Nat.zero_le _) ?_; intro v' w' hO hg hn hbk; have HE : Hid (∃ ρ', VL ρ' w' 12 v' (TB ++ HL) ∧ Upd (fun q => q = 12) ρ2 w2 ρ' w') := VL.appended (L := TB) (L2 := HL) (r := 12) G2.out.fr (by decide) H9.out.2.2.1 H9.out.2.2.2 H8.out.2.2.2 H9.out.2.1 hO hg hbk; clear hO hg hn hbk))
            go_meet
            obtain ⟨ρ3, v3, u3⟩ := HE.out
            have gv2 := GVb.out.kept U2.out (by unfold Sm; decide) (by unfold Sm; decide) (by unfold Sm; decide) (by unfold Sm; decide)
            exact ⟨ρ3, iv2, dS, _, hb, lA, lB2, [], TA, TB ++ HL, rfl, G2.out.kept u3 (by unfold Sm; intro r h; omega), ⟨vl_nilv, v3, gv2.a.keep u3 (by decide) (by decide)⟩, Or.inl rfl, by have := HL1.out.1; simp; omega, by have := HL1.out.2.1; omega, fun _ => rfl, (Ub.out.trans (U2.out.mono smSn)).trans (u3.mono (fun r h => by unfold Sn; omega))⟩
        · -- Send on a
          obtain ⟨ρa, ua, ma⟩ := msu_made (w := w1) GMb.out.fr x
          have GMa : Hid (GM ρa (w1.alloc (.cells #[.int .u8 x] 5)) P A B RA RB iv md hv hb lA lB HL TA TB) := GMb.out.kept ua (fun _ h => h.elim)
          have GVa : Hid (GV ρa (w1.alloc (.cells #[.int .u8 x] 5)) u8 u9 u10 HL TB TA) := GVb.out.kept ua (fun h => h) (fun h => h) (fun h => h) (fun h => h)
          have Ua : Hid (Upd Sn ρ0 w ρa (w1.alloc (.cells #[.int .u8 x] 5))) := Ub.out.trans (ua.mono (fun _ h => h.elim))
          have Ma : Hid (Msu ρa (w1.alloc (.cells #[.int .u8 x] 5)) w1.heap.size x) := ma
          have xa : Hid ((w1.alloc (.cells #[.int .u8 x] 5)).cell? ⟨wr.heap.size, 1, none⟩ = some (.int .u8 x) ∧ ρa wr.heap.size = 0) := ⟨ua.cell xb (fun h => h), (ua.role _ (World.block_lt_of_cell? _ _ xb)).trans HRB.out⟩
          have hlb : TB.length ≤ 40000 := by have := HL1.out.1; omega
          have hla : TA.length ≤ 40000 := by have := HL1.out.2.1; omega
          have hlh : HL.length ≤ 40000 := by have := HL1.out.1; omega
          clear ua ma
          rcases hmd with rfl | rfl | rfl
          · -- deliver
            have e1 : dS = ⟨#[100, 101, 108, 105, 118, 101, 114]⟩ := rfl
            rw [e1]
            go_wp2_with (first | (go_at_call 9; refine (op_sendA GMa.out Ma.out hlb hlh (Or.inl rfl)).mono ?_; rintro e w2 ⟨rfl, ρ2, iv2, hv2, lB2, g2, u2⟩; have G2 : Hid (GM ρ2 w2 P A B RA RB iv2 _ hv2 hb lA lB2 _ TA _) := g2; have U2 : Hid (Upd Sm ρa (w1.alloc (.cells #[.int .u8 x] 5)) ρ2 w2) := u2; have x2 : w2.cell? ⟨wr.heap.size, 1, none⟩ = some (.int .u8 x) := u2.cell xa.out.1 (by show ¬ Sm (ρa wr.heap.size); rw [xa.out.2]; unfold Sm; decide); clear g2 u2; obtain ⟨xs9, ho9, hxl9, hk9, hx9⟩ := vl_owns ((GVa.out.kept U2.out (by unfold Sm; decide) (by unfold Sm; decide) (by unfold Sm; decide) (by unfold Sm; decide)).b); have H9 : Hid (w2.ownsRow 0 35 1 u9 TB.length xs9 ∧ xs9.length = TB.length ∧ (∀ k, Value.ownBlock u9 = some k → ρ2 k = 12) ∧ ∀ i, i < TB.length → ∃ b c, xs9[i]? = some (.slice (some ⟨b, 0, none⟩) 1 c) ∧ Msu ρ2 w2 b (TB.getD i 0)) := ⟨ho9, hxl9, hk9, hx9⟩; clear ho9 hxl9 hk9 hx9) | (at_builtin; refine wpList_append_own_at _ rfl (.tmp 65) (.tmp 69) 27 rfl 0 35 i0 (.slice none 0 0) 1 24 Yba.underlying27 hi hz0 hz1 hz2 rfl (by decide) u9 TB.length xs9 rfl (World.ownsRow.alloc (World.ownsRow.alloc H9.out.1 _) _) ⟨w2.heap.size + 1, 0, none⟩ 1 1 [.slice (some ⟨w2.heap.size, 0, none⟩) 1 1] rfl rfl (one_new2 w2 _ _ _) (one1 _ rfl) (by unfold maxLen; omega) (by omega) (Nat.zero_le _) ?_; intro v' w' hO hg hn hbk; have HE : Hid (∃ ρ', VL ρ' w' 12 v' (TB ++ [x]) ∧ Upd (fun q => q = 12) ρ2 w2 ρ' w') := model_app (r := 12) G2.out.fr (by decide) H9.out.1 H9.out.2.1 H9.out.2.2.1 H9.out.2.2.2 _ hO hg hbk; clear hO hg hn hbk))
            go_meet
            obtain ⟨ρ3, v3, u3⟩ := HE.out
            have g2 := G2.out
            rw [show heldL dS x = [] from if_neg (by decide), show outL dS x = [x] from if_pos rfl, List.append_nil] at g2
            have gv2 := GVa.out.kept U2.out (by unfold Sm; decide) (by unfold Sm; decide) (by unfold Sm; decide) (by unfold Sm; decide)
            exact ⟨ρ3, iv2, dS, hv2, hb, lA, lB2, HL, TA, TB ++ [x], rfl, g2.kept u3 (by unfold Sm; intro r h; omega), ⟨gv2.h.keep u3 (by decide) (by decide), v3, gv2.a.keep u3 (by decide) (by decide)⟩, Or.inl rfl, by have := HL1.out.1; simp; omega, by have := HL1.out.2.1; omega, HL1.out.2.2, (Ua.out.trans (U2.out.mono smSn)).trans (u3.mono (fun r h => by unfold Sn; omega))⟩
          · -- hold
            have e1 : hS = ⟨#[104, 111, 108, 100]⟩ := rfl
            rw [e1]
            go_wp2_with (first | (go_at_call 9; refine (op_sendA GMa.out Ma.out hlb hlh (Or.inr (Or.inl rfl))).mono ?_; rintro e w2 ⟨rfl, ρ2, iv2, hv2, lB2, g2, u2⟩; have G2 : Hid (GM ρ2 w2 P A B RA RB iv2 _ hv2 hb lA lB2 _ TA _) := g2; have U2 : Hid (Upd Sm ρa (w1.alloc (.cells #[.int .u8 x] 5)) ρ2 w2) := u2; have x2 : w2.cell? ⟨wr.heap.size, 1, none⟩ = some (.int .u8 x) := u2.cell xa.out.1 (by show ¬ Sm (ρa wr.heap.size); rw [xa.out.2]; unfold Sm; decide); clear g2 u2; obtain ⟨xs9, ho9, hxl9, hk9, hx9⟩ := vl_owns ((GVa.out.kept U2.out (by unfold Sm; decide) (by unfold Sm; decide) (by unfold Sm; decide) (by unfold Sm; decide)).h); have H9 : Hid (w2.ownsRow 0 35 1 u8 HL.length xs9 ∧ xs9.length = HL.length ∧ (∀ k, Value.ownBlock u8 = some k → ρ2 k = 11) ∧ ∀ i, i < HL.length → ∃ b c, xs9[i]? = some (.slice (some ⟨b, 0, none⟩) 1 c) ∧ Msu ρ2 w2 b (HL.getD i 0)) := ⟨ho9, hxl9, hk9, hx9⟩; clear ho9 hxl9 hk9 hx9) | (at_builtin; refine wpList_append_own_at _ rfl (.tmp 73) (.tmp 77) 27 rfl 0 35 i0 (.slice none 0 0) 1 24 Yba.underlying27 hi hz0 hz1 hz2 rfl (by decide) u8 HL.length xs9 rfl (World.ownsRow.alloc (World.ownsRow.alloc H9.out.1 _) _) ⟨w2.heap.size + 1, 0, none⟩ 1 1 [.slice (some ⟨w2.heap.size, 0, none⟩) 1 1] rfl rfl (one_new2 w2 _ _ _) (one1 _ rfl) (by unfold maxLen; omega) (by omega) (Nat.zero_le _) ?_; intro v' w' hO hg hn hbk; have HE : Hid (∃ ρ', VL ρ' w' 11 v' (HL ++ [x]) ∧ Upd (fun q => q = 11) ρ2 w2 ρ' w') := model_app (r := 11) G2.out.fr (by decide) H9.out.1 H9.out.2.1 H9.out.2.2.1 H9.out.2.2.2 _ hO hg hbk; clear hO hg hn hbk))
            go_meet
            obtain ⟨ρ3, v3, u3⟩ := HE.out
            have g2 := G2.out
            rw [show heldL hS x = [x] from if_pos rfl, show outL hS x = [] from if_neg (by decide), List.append_nil] at g2
            have gv2 := GVa.out.kept U2.out (by unfold Sm; decide) (by unfold Sm; decide) (by unfold Sm; decide) (by unfold Sm; decide)
            exact ⟨ρ3, iv2, hS, hv2, hb, lA, lB2, HL ++ [x], TA, TB, rfl, g2.kept u3 (by unfold Sm; intro r h; omega), ⟨v3, gv2.b.keep u3 (by decide) (by decide), gv2.a.keep u3 (by decide) (by decide)⟩, Or.inr (Or.inl rfl), by have := HL1.out.1; simp; omega, by have := HL1.out.2.1; omega, (fun h => absurd h (by simp)), (Ua.out.trans (U2.out.mono smSn)).trans (u3.mono (fun r h => by unfold Sn; omega))⟩
          · -- drop
            have e1 : pS = ⟨#[100, 114, 111, 112]⟩ := rfl
            rw [e1]
            go_wp2_with (go_at_call 9; refine (op_sendA GMa.out Ma.out hlb hlh (Or.inr (Or.inr rfl))).mono ?_; rintro e w2 ⟨rfl, ρ2, iv2, hv2, lB2, g2, u2⟩; have G2 : Hid (GM ρ2 w2 P A B RA RB iv2 _ hv2 hb lA lB2 _ TA _) := g2; have U2 : Hid (Upd Sm ρa (w1.alloc (.cells #[.int .u8 x] 5)) ρ2 w2) := u2; have x2 : w2.cell? ⟨wr.heap.size, 1, none⟩ = some (.int .u8 x) := u2.cell xa.out.1 (by show ¬ Sm (ρa wr.heap.size); rw [xa.out.2]; unfold Sm; decide); clear g2 u2)
            go_meet
            have g2 := G2.out
            rw [show heldL pS x = [] from if_neg (by decide), show outL pS x = [] from if_neg (by decide), List.append_nil, List.append_nil] at g2
            exact ⟨ρ2, iv2, pS, hv2, hb, lA, lB2, HL, TA, TB, rfl, g2, GVa.out.kept U2.out (by unfold Sm; decide) (by unfold Sm; decide) (by unfold Sm; decide) (by unfold Sm; decide), Or.inr (Or.inr rfl), by have := HL1.out.1; omega, by have := HL1.out.2.1; omega, HL1.out.2.2, Ua.out.trans (U2.out.mono smSn)⟩
        · -- Send on b
          obtain ⟨ρa, ua, ma⟩ := msu_made (w := w1) GMb.out.fr x
          have GMa : Hid (GM ρa (w1.alloc (.cells #[.int .u8 x] 5)) P A B RA RB iv md hv hb lA lB HL TA TB) := GMb.out.kept ua (fun _ h => h.elim)
          have GVa : Hid (GV ρa (w1.alloc (.cells #[.int .u8 x] 5)) u8 u9 u10 HL TB TA) := GVb.out.kept ua (fun h => h) (fun h => h) (fun h => h) (fun h => h)
          have Ua : Hid (Upd Sn ρ0 w ρa (w1.alloc (.cells #[.int .u8 x] 5))) := Ub.out.trans (ua.mono (fun _ h => h.elim))
          have Ma : Hid (Msu ρa (w1.alloc (.cells #[.int .u8 x] 5)) w1.heap.size x) := ma
          have xa : Hid ((w1.alloc (.cells #[.int .u8 x] 5)).cell? ⟨wr.heap.size, 1, none⟩ = some (.int .u8 x) ∧ ρa wr.heap.size = 0) := ⟨ua.cell xb (fun h => h), (ua.role _ (World.block_lt_of_cell? _ _ xb)).trans HRB.out⟩
          have hlb : TB.length ≤ 40000 := by have := HL1.out.1; omega
          have hla : TA.length ≤ 40000 := by have := HL1.out.2.1; omega
          have hlh : HL.length ≤ 40000 := by have := HL1.out.1; omega
          clear ua ma
          go_wp2_with (first | (go_at_call 9; refine (op_sendB GMa.out Ma.out hla).mono ?_; rintro e w2 ⟨rfl, ρ2, iv2, hb2, lA2, g2, u2⟩; have G2 : Hid (GM ρ2 w2 P A B RA RB iv2 md hv hb2 lA2 lB HL (TA ++ [x]) TB) := g2; have U2 : Hid (Upd Sm ρa (w1.alloc (.cells #[.int .u8 x] 5)) ρ2 w2) := u2; have x2 : w2.cell? ⟨wr.heap.size, 1, none⟩ = some (.int .u8 x) := u2.cell xa.out.1 (by show ¬ Sm (ρa wr.heap.size); rw [xa.out.2]; unfold Sm; decide); clear g2 u2; obtain ⟨xs9, ho9, hxl9, hk9, hx9⟩ := vl_owns ((GVa.out.kept U2.out (by unfold Sm; decide) (by unfold Sm; decide) (by unfold Sm; decide) (by unfold Sm; decide)).a); have H9 : Hid (w2.ownsRow 0 35 1 u10 TA.length xs9 ∧ xs9.length = TA.length ∧ (∀ k, Value.ownBlock u10 = some k → ρ2 k = 13) ∧ ∀ i, i < TA.length → ∃ b c, xs9[i]? = some (.slice (some ⟨b, 0, none⟩) 1 c) ∧ Msu ρ2 w2 b (TA.getD i 0)) := ⟨ho9, hxl9, hk9, hx9⟩; clear ho9 hxl9 hk9 hx9) | (at_builtin; refine wpList_append_own_at _ rfl (.tmp 86) (.tmp 90) 27 rfl 0 35 i0 (.slice none 0 0) 1 24 Yba.underlying27 hi hz0 hz1 hz2 rfl (by decide) u10 TA.length xs9 rfl (World.ownsRow.alloc (World.ownsRow.alloc H9.out.1 _) _) ⟨w2.heap.size + 1, 0, none⟩ 1 1 [.slice (some ⟨w2.heap.size, 0, none⟩) 1 1] rfl rfl (one_new2 w2 _ _ _) (one1 _ rfl) (by unfold maxLen; omega) (by omega) (Nat.zero_le _) ?_; intro v' w' hO hg hn hbk; have HE : Hid (∃ ρ', VL ρ' w' 13 v' (TA ++ [x]) ∧ Upd (fun q => q = 13) ρ2 w2 ρ' w') := model_app (r := 13) G2.out.fr (by decide) H9.out.1 H9.out.2.1 H9.out.2.2.1 H9.out.2.2.2 _ hO hg hbk; clear hO hg hn hbk))
          go_meet
          obtain ⟨ρ3, v3, u3⟩ := HE.out
          have gv2 := GVa.out.kept U2.out (by unfold Sm; decide) (by unfold Sm; decide) (by unfold Sm; decide) (by unfold Sm; decide)
          exact ⟨ρ3, iv2, md, hv, hb2, lA2, lB, HL, TA ++ [x], TB, rfl, G2.out.kept u3 (by unfold Sm; intro r h; omega), ⟨gv2.h.keep u3 (by decide) (by decide), gv2.b.keep u3 (by decide) (by decide), v3⟩, hmd, by have := HL1.out.1; omega, by have := HL1.out.2.1; simp; omega, HL1.out.2.2, (Ua.out.trans (U2.out.mono smSn)).trans (u3.mono (fun r h => by unfold Sn; omega))⟩
      case rest =>
      clear GMr GVr UU HL1 d1 d2 hr5 hmd hvm
      have HI := hcut
      clear hcut
      go_wp2
      go_roundg (n - (t + 1))
      case measure => omega
      case rel => exact ⟨t + 1, by omega, rfl, by go_num, HI⟩
    · -- the end
      have htn : t = n := by omega
      subst htn
      obtain ⟨ρr, iv, md, hv, hb, lA, lB, HL, TA, TB, hvm, gm, gv, hmd, hl1, hl2, hnil, uu⟩ := HI.out
      subst hvm
      have GMr : Hid (GM ρr wr P A B RA RB iv md hv hb lA lB HL TA TB) := gm
      have GVr : Hid (GV ρr wr u8 u9 u10 HL TB TA) := gv
      have UU : Hid (Upd Sn ρ0 w ρr wr) := uu
      clear gm gv uu HI hnil hlt
      have c3 : wr.cell? ⟨A, 3, none⟩ = some (.string md) := GMr.out.a.2.cell (by omega)
      have c4 : wr.cell? ⟨A, 4, none⟩ = some hv := GMr.out.a.2.cell (by omega)
      have e3 : wr.cell? ⟨B, 3, none⟩ = some (.string ⟨#[100, 101, 108, 105, 118, 101, 114]⟩) := GMr.out.b.2.cell (by omega)
      have la : wr.cell? ⟨RA, 0, none⟩ = some lA := GMr.out.ra.2.cell (by omega)
      have lb : wr.cell? ⟨RB, 0, none⟩ = some lB := GMr.out.rb.2.cell (by omega)
      have hh1 : HL.length ≤ 50000 := by omega
      have hh2 : TB.length ≤ 50000 := by omega
      have hh3 : TA.length ≤ 50000 := by omega
      go_wp2_with (go_at_call 10; (first | with_reducible refine (eq_any ρr wr 7 11 hv u8 HL GMr.out.h GVr.out.h hh1).mono ?_ | with_reducible refine (eq_drew _ GMr.out.fr GMr.out.tb GVr.out.b hh2).mono ?_ | with_reducible refine (eq_drew _ GMr.out.fr GMr.out.ta GVr.out.a hh3).mono ?_); rintro e w9 ⟨rfl, j9, rfl⟩)
      go_ret
      exact ⟨rfl, below_of (UU.out.drewN _)⟩

set_option maxHeartbeats 1000000 in
theorem law_long (oa : Option Addr) (n cap : Nat) (w : World) (hn : 1024 < n) :
    Calls Yba.prog 3 #[.slice oa n cap] w fun e w' => e = .returned (.bool true) ∧ Below w.heap.size w w' := by
  have g1 : (1024 : Int) < (n : Int) := by omega
  clear hn
  go_enter Yba.func3, Yba.ntmps3
  go_wp2
  go_ret
  exact ⟨rfl, Below.refl _ _⟩
end Go.Proofs.Ybulkceww.Pipe
