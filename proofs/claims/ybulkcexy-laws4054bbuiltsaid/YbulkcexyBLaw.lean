/-
  The walk of LawS4054BBuilt.
-/
import Derived.Test.YbulkcexyBState
import Derived.Test.YbulkcexyEther
import Derived.Test.YbulkcexyBuild
import Derived.Deep.CutBlock
namespace Go.Proofs.Ybulkcexy.Frame
open Go.RowKit
set_option linter.unusedVariables false
set_option maxRecDepth 100000

/-- The bytes behind the tags, up to the payload; the type that comes back. -/
def stL (kn : Nat) (adr cmp v6 : Bool) (n : Nat) (typ : Int) (L : List Int) : List Int :=
  if kn = 0 then L else if kn = 1 then ((L ++ [17, 0, 0, 1, 0, 0]) ++ cAdr adr) ++ cPro cmp v6
  else if kn = 2 then (L ++ labL n) ++ [0, 16, 1, 64]
  else ((((L ++ labL n) ++ [0, 16, 1, 64]) ++ [0, 0, 0, 0]) ++ z12) ++ w16 (plainT typ)
def wantK (kn : Nat) (v6 : Bool) (typ : Int) : Int := if kn = 0 then plainT typ else if kn = 1 then wantv v6 else if kn = 2 then wantv v6 else plainT typ
def ipK (kn : Nat) (v6 : Bool) : List Int := if kn = 2 then ipB v6 else []

theorem stL_len (kn : Nat) (adr cmp v6 : Bool) (n : Nat) (typ : Int) (L : List Int) (hn : n < 5) : L.length ≤ (stL kn adr cmp v6 n typ L).length ∧ (stL kn adr cmp v6 n typ L).length ≤ L.length + 100 := by
  have h1 : (cAdr adr).length ≤ 2 := by cases adr <;> simp [cAdr]
  have h2 : (cPro cmp v6).length ≤ 2 := by cases cmp <;> simp [cPro]
  unfold stL
  split
  · omega
  · split
    · simp only [List.length_append, List.length_cons, List.length_nil]; omega
    · split
      · simp only [List.length_append, List.length_cons, List.length_nil, labL_len]; omega
      · simp only [List.length_append, List.length_cons, List.length_nil, labL_len]; simp [z12, w16]; omega

theorem built_all (kn : Nat) (hkn : kn < 4) (T : List Int) (adr cmp v6 : Bool) (n : Nat) (typ : Int) (Q F : List Int)
    (hF : F = (stL kn adr cmp v6 n typ (tagL T (lastv kn typ) T.length) ++ ipK kn v6) ++ Q) :
    etherM F.length (zz F) = some (wantK kn v6 typ, (stL kn adr cmp v6 n typ (tagL T (lastv kn typ) T.length)).length) := by
  rcases (show kn = 0 ∨ kn = 1 ∨ kn = 2 ∨ kn = 3 by omega) with h | h | h | h <;> subst h
  · have := built0 T typ Q F (by rw [hF]; show (_ ++ []) ++ Q = _; rw [List.append_nil]; rfl)
    rw [this]
    show _ = some (_, (tagL T (plainT typ) T.length).length)
    rw [tagL_len]; rfl
  · exact built1 T adr cmp v6 Q F (by rw [hF]; show (_ ++ []) ++ Q = _; rw [List.append_nil]; rfl)
  · exact built2 T (lastv 2 typ) (isLab_lastv 2 typ (by decide) (by decide)) n v6 Q F (by rw [hF]; rfl)
  · exact built3 T (lastv 3 typ) (isLab_lastv 3 typ (by decide) (by decide)) n typ Q F (by rw [hF]; show (_ ++ []) ++ Q = _; rw [List.append_nil]; rfl)

theorem bytes_tags (T : List Int) (la : Int) (hla : 0 ≤ la ∧ la ≤ 65535) (hT : ∀ j, 0 ≤ T.getD j 0 ∧ T.getD j 0 ≤ 65535) (j : Nat) : ∀ x ∈ tagL T la j, 0 ≤ x ∧ x ≤ 255 := by
  have hz : ∀ x ∈ z12, 0 ≤ x ∧ x ≤ 255 := by intro x hx; simp [z12] at hx; omega
  induction j with
  | zero =>
    intro x hx
    simp only [tagL, tagB, List.mem_append, List.not_mem_nil, or_false] at hx
    rcases hx with h | h
    · exact hz x h
    · exact w16_b (tyN_b T la 0 hla) x h
  | succ j ih =>
    intro x hx
    rw [tagL_succ] at hx
    simp only [List.mem_append] at hx
    rcases hx with (h | h) | h
    · exact ih x h
    · exact w16_b (hT j) x h
    · exact w16_b (tyN_b T la _ hla) x h

theorem bytes_all (kn : Nat) (adr cmp v6 : Bool) (n : Nat) (typ : Int) (htyp : 0 ≤ typ ∧ typ ≤ 65535) (L Q : List Int) (hL : ∀ x ∈ L, 0 ≤ x ∧ x ≤ 255) (hQ : ∀ x ∈ Q, 0 ≤ x ∧ x ≤ 255) :
    ∀ x ∈ (stL kn adr cmp v6 n typ L ++ ipK kn v6) ++ Q, 0 ≤ x ∧ x ≤ 255 := by
  have hz : ∀ x ∈ z12, 0 ≤ x ∧ x ≤ 255 := by intro x hx; simp [z12] at hx; omega
  have hlb : ∀ n, ∀ x ∈ labL n, 0 ≤ x ∧ x ≤ 255 := by
    intro n
    induction n with
    | zero => intro x hx; cases hx
    | succ n ih =>
      intro x hx
      have hx' : x ∈ labL n ++ [0, 16, 0, 64] := hx
      rcases List.mem_append.1 hx' with h | h
      · exact ih x h
      · simp at h; omega
  have hip : ∀ x ∈ ipK kn v6, 0 ≤ x ∧ x ≤ 255 := by
    intro x hx; unfold ipK at hx; split at hx
    · cases v6 <;> simp [ipB] at hx <;> omega
    · cases hx
  have hadr : ∀ x ∈ cAdr adr, 0 ≤ x ∧ x ≤ 255 := by intro x hx; cases adr <;> simp [cAdr] at hx; omega
  have hpro : ∀ x ∈ cPro cmp v6, 0 ≤ x ∧ x ≤ 255 := by intro x hx; cases cmp <;> cases v6 <;> simp [cPro, prv] at hx <;> omega
  have hst : ∀ x ∈ stL kn adr cmp v6 n typ L, 0 ≤ x ∧ x ≤ 255 := by
    intro x hx
    unfold stL at hx
    split at hx
    · exact hL x hx
    · split at hx
      · simp only [List.mem_append] at hx
        rcases hx with ((h | h) | h) | h
        · exact hL x h
        · simp at h; omega
        · exact hadr x h
        · exact hpro x h
      · split at hx
        · simp only [List.mem_append] at hx
          rcases hx with (h | h) | h
          · exact hL x h
          · exact hlb n x h
          · simp at h; omega
        · simp only [List.mem_append] at hx
          rcases hx with ((((h | h) | h) | h) | h) | h
          · exact hL x h
          · exact hlb n x h
          · simp at h; omega
          · simp at h; omega
          · exact hz x h
          · exact w16_b (plainT_b typ htyp) x h
  intro x hx
  simp only [List.mem_append] at hx
  rcases hx with (h | h) | h
  · exact hst x h
  · exact hip x h
  · exact hQ x h

set_option maxHeartbeats 8000000 in
theorem bb_main (w : World) (ta qa : Option Addr) (tm tc qn qc : Nat) (kind typ labels : Int) (T Q : List Int) (htm : tm ≤ 256) (hqn : qn ≤ 4096)
    (hkind : 0 ≤ kind ∧ kind ≤ 255) (htyp : 0 ≤ typ ∧ typ ≤ 65535) (hlabs : 0 ≤ labels ∧ labels ≤ 255) (hT : Src16 w ta tm T) (hQ : Src w qa qn qc Q) (bQ : ∀ x ∈ Q, 0 ≤ x ∧ x ≤ 255) :
    Calls Yba.prog 4 #[.slice ta tm tc, .int .u8 kind, .int .u16 typ, .int .u8 labels, .slice qa qn qc] w fun e w' => e = .returned (.bool true) ∧ Below w.heap.size w w' := by
  have HT : Hid (Src16 w ta tm T) := hT
  have HQ : Hid (Src w qa qn qc Q) := hQ
  have HBQ : Hid (∀ x ∈ Q, 0 ≤ x ∧ x ≤ 255) := bQ
  have HTYP : Hid (0 ≤ typ ∧ typ ≤ 65535) := htyp
  clear hT hQ bQ
  go_enter Yba.func4, Yba.ntmps4
  go_upto_region 4 with fail
  go_cut [12] (fun v wx => ∃ kn : Nat, v = .int .i64 kn ∧ kn < 4 ∧ Hid (BInv w wx))
  case first => as_aux_lemma =>
    go_wp2
    go_meet
    refine ⟨(kind % 4).toNat, ?_, by omega, ⟨(Below.refl _ _).alloc (Nat.le_refl _) _, by simp, fun i hi => ?_⟩⟩
    · congr 1; omega
    · match i, hi with
      | 0, _ => simp
      | 1, _ => simp
      | 2, _ => simp
  case rest =>
  obtain ⟨kn, rfl, hkn, HI⟩ := hcut
  -- last
  go_upto_block 0 with fail
  go_cut [13] (fun v wx => v = .int .u16 (lastv kn typ) ∧ wx = wc)
  case first => as_aux_lemma =>
    have e8 := and_8 typ htyp
    rcases (show kn = 0 ∨ kn = 1 ∨ kn = 2 ∨ kn = 3 by omega) with h | h | h | h <;> subst h
    · cases hs : spc typ
      · have HS : Hid (spc typ = false) := hs
        clear hs
        go_wp2_with (go_at_call 10; refine (spc_any _ _).mono ?_; rintro e w2 ⟨rfl, rfl⟩; rw [HS.out])
        go_meet
        exact ⟨by unfold lastv plainT; rw [HS.out]; rfl, rfl⟩
      · have HS : Hid (spc typ = true) := hs
        clear hs
        go_wp2_with (go_at_call 10; refine (spc_any _ _).mono ?_; rintro e w2 ⟨rfl, rfl⟩; rw [HS.out])
        go_meet
        exact ⟨by unfold lastv plainT; rw [HS.out]; rfl, rfl⟩
    · go_wp2
      go_meet
      exact ⟨rfl, rfl⟩
    · by_cases h8 : typ / 8 % 2 = 1
      · go_wp2
        go_meet
        exact ⟨by unfold lastv; rw [if_neg (by decide), if_neg (by decide), if_pos (by omega)], rfl⟩
      · go_wp2
        go_meet
        exact ⟨by unfold lastv; rw [if_neg (by decide), if_neg (by decide), if_neg (by omega)], rfl⟩
    · by_cases h8 : typ / 8 % 2 = 1
      · go_wp2
        go_meet
        exact ⟨by unfold lastv; rw [if_neg (by decide), if_neg (by decide), if_pos (by omega)], rfl⟩
      · go_wp2
        go_meet
        exact ⟨by unfold lastv; rw [if_neg (by decide), if_neg (by decide), if_neg (by omega)], rfl⟩
  case rest =>
  obtain ⟨rfl, rfl⟩ := hcut
  obtain ⟨la, hla⟩ : ∃ la, la = lastv kn typ := ⟨_, rfl⟩
  have hlab : 0 ≤ la ∧ la ≤ 65535 := by rw [hla]; exact lastv_b kn typ htyp
  have HLA : Hid (la = lastv kn typ) := hla
  rw [← hla]
  clear hla
  -- make([]byte, 12); first
  have hmk : ∀ wx : World, (Instr.makeSlice 22 (.int .i64 12) (.int .i64 12)).run Yba.prog wx = .ok (.slice (some ⟨wx.heap.size, 0, none⟩) 12 12) (wx.alloc (.cells (madeCells #[.int .u8 0] 12) 5)) := fun wx =>
    run_make_row' (P := Yba.prog) 22 5 (.int .u8 0) 1 Yba.underlying22 info5 rfl .i64 .i64 12 (by omega) (by omega) wx
  go_upto_region 18 with fail
  have hs0 := HI.out.size
  have HS0 : Hid (BSt w (wc.alloc (.cells (madeCells #[.int .u8 0] 12) 5)) (.slice (some ⟨wc.heap.size, 0, none⟩) 12 12) z12) := by
    refine ⟨HI.out.next ((Below.refl _ _).alloc hs0 _), ?_⟩
    have := World.ownsRow_lit (base := w.heap.size + 1) (e := 5) (size := 1) wc (madeCells #[.int .u8 0] 12) 12 hs0 (by unfold maxLen; omega) (by rw [size_madeCells])
    show World.ownsRow _ _ _ _ _ _ _
    rw [toList_madeCells_one] at this
    simpa [z12] using this
  clear hmk
  -- the first type
  have hcells : ∀ i, i < 3 → (wc.alloc (.cells (madeCells #[.int .u8 0] 12) 5)).cell? ⟨w.heap.size, i, none⟩ = some (.int .u16 ([33024, 34984, 37120].getD i 0)) := HS0.out.1.held
  have HCE : Hid (∀ i, i < 3 → (wc.alloc (.cells (madeCells #[.int .u8 0] 12) 5)).cell? ⟨w.heap.size, i, none⟩ = some (.int .u16 ([33024, 34984, 37120].getD i 0))) := hcells
  clear hcells
  go_upto_if 55 with fail
  go_cut [15] (fun v wx => v = .int .u16 (tyN T la 0) ∧ wx = wc.alloc (.cells (madeCells #[.int .u8 0] 12) 5))
  case first => as_aux_lemma =>
    by_cases h0 : 0 < tm
    · obtain ⟨tb, tf, rfl, hct⟩ := HT.out.2.1 h0
      have ct : w.cell? ⟨tb, tf, none⟩ = some (.int .u16 (T.getD 0 0)) := hct 0 h0
      clear hct
      have ct2 : ∀ o, (wc.alloc o).cell? ⟨tb, tf, none⟩ = some (.int .u16 (T.getD 0 0)) := by
        intro o
        have := (HI.out.below.cell (World.block_lt_of_cell? _ _ ct)).trans ct
        exact (World.cell?_alloc_lt _ _ _ (World.block_lt_of_cell? _ _ this)).trans this
      obtain ⟨tv, htv⟩ : ∃ tv, tv = T.getD 0 0 := ⟨_, rfl⟩
      have htb : 0 ≤ tv ∧ tv ≤ 65535 := by rw [htv]; exact HT.out.2.2 0
      rw [← htv] at ct2
      have HTN : Hid (tyN T la 0 = tagT tv) := by unfold tyN; rw [if_pos (by rw [HT.out.1]; exact h0), ← htv]; rfl
      have ht0 : (0 : Int) < (tm : Int) := by omega
      clear ct htv
      obtain ⟨q, hq, hq3⟩ : ∃ q : Nat, (q : Int) = tv % 3 ∧ q < 3 := ⟨(tv % 3).toNat, by omega, by omega⟩
      have cq := HCE.out q hq3
      have HTN2 : Hid (tagT tv = [33024, 34984, 37120].getD q 0) := by
        unfold tagT
        have : (tv % 3).toNat = q := by omega
        rw [this]; rfl
      obtain ⟨gq, hgq⟩ : ∃ gq : Int, gq = [33024, 34984, 37120].getD q 0 := ⟨_, rfl⟩
      rw [← hgq] at cq HTN2
      have HQQ : Hid ((q : Int) = tv % 3) := hq
      clear hq hgq
      have hq1 : tv % 3 < 3 := by omega
      have hq0 : 0 ≤ tv % 3 := by omega
      have hqt : (tv % 3).toNat = q := by have := HQQ.out; omega
      go_wp2
      go_meet
      exact ⟨by rw [HTN.out, HTN2.out], rfl⟩
    · have HTN : Hid (tyN T la 0 = la) := by unfold tyN; rw [if_neg (by rw [HT.out.1]; exact h0)]; rfl
      go_wp2
      go_meet
      exact ⟨by rw [HTN.out], rfl⟩
  case rest =>
  obtain ⟨rfl, rfl⟩ := hcut
  have ht0b : 0 ≤ tyN T la 0 ∧ tyN T la 0 ≤ 65535 := tyN_b T la 0 hlab
  obtain ⟨t0, ht0⟩ : ∃ t0, t0 = tyN T la 0 := ⟨_, rfl⟩
  have HT0 : Hid (t0 = tyN T la 0) := ht0
  rw [← ht0] at ht0b ⊢
  have hs1 := HS0.out.1.size
  clear ht0 hs0 HCE
  go_upto_region 20 with fail
  go_cut [14] (fun v wx => Hid (BSt w wx v (z12 ++ w16 t0)))
  case first => as_aux_lemma =>
    go_wp2_with (go_at_call 11; refine (put_b (w.heap.size + 1) _ z12 t0 _ HS0.out.2 ht0b (by simp [z12]) hs1).mono ?_; rintro e w2 ⟨v2, rfl, hO2, hb2⟩)
    go_meet
    exact HS0.out.put hO2 hb2
  case rest =>
  clear HS0 hs1 HI ht0b
  have HS : Hid (BSt w wc u14 (tagL T la 0)) := by
    have := hcut.out
    rw [HT0.out] at this
    show BSt w wc u14 ((z12 ++ w16 (tyN T la 0)) ++ [])
    rw [List.append_nil]; exact this
  clear hcut
  -- the tags
  go_upto_block 1 with fail
  go_cut [14] (fun v wx => Hid (BSt w wx v (tagL T la tm)))
  case first => as_aux_lemma =>
    go_wp2_with fail
    go_loopg [14, 68] tm (fun gk v i wr => ∃ j : Nat, j ≤ tm ∧ gk = tm - j ∧ i = .int .i64 j ∧ Hid (BSt w wr v (tagL T la j)))
    case atStart => exact ⟨0, Nat.zero_le _, rfl, rfl, HS⟩
    case round =>
      clear HS
      obtain ⟨j, hj, rfl, rfl, HS⟩ := hrel
      by_cases hlt : j < tm
      · obtain ⟨tb, tf, rfl, hct⟩ := HT.out.2.1 (by omega)
        have HCT : Hid (∀ wx, BInv w wx → ∀ i, i < tm → wx.cell? ⟨tb, tf + i, none⟩ = some (.int .u16 (T.getD i 0))) := fun wx h i hi => (h.below.cell (World.block_lt_of_cell? _ _ (hct i hi))).trans (hct i hi)
        clear hct
        obtain ⟨tv, htv⟩ : ∃ tv, tv = T.getD j 0 := ⟨_, rfl⟩
        have htb : 0 ≤ tv ∧ tv ≤ 65535 := by rw [htv]; exact HT.out.2.2 j
        have HTV : Hid (tv = T.getD j 0) := htv
        have ct := HCT.out _ HS.out.1 j hlt
        rw [← htv] at ct
        have hs := HS.out.1.size
        have hll : (tagL T la j).length ≤ 2000 := by rw [tagL_len]; omega
        obtain ⟨Lj, hLj⟩ : ∃ Lj, Lj = tagL T la j := ⟨_, rfl⟩
        have HLJ : Hid (Lj = tagL T la j) := hLj
        rw [← hLj] at HS hll
        clear htv hLj
        have hjt : (j : Int) < (tm : Int) := by omega
        go_upto_region 24 with fail
        go_cut [14] (fun v wx => Hid (BSt w wx v (Lj ++ w16 tv)))
        case first => as_aux_lemma =>
          go_wp2_with (go_at_call 11; refine (put_b (w.heap.size + 1) _ Lj tv _ HS.out.2 htb (by omega) hs).mono ?_; rintro e w2 ⟨v2, rfl, hO2, hb2⟩)
          go_meet
          exact HS.out.put hO2 hb2
        case rest =>
        clear HS hs ct
        have HS := hcut
        clear hcut
        go_upto_if 81 with fail
        go_cut [18] (fun v wx => v = .int .u16 (tyN T la (j + 1)) ∧ wx = wc)
        case first => as_aux_lemma =>
          by_cases hlt2 : j + 1 < tm
          · obtain ⟨t2, ht2⟩ : ∃ t2, t2 = T.getD (j + 1) 0 := ⟨_, rfl⟩
            have htb2 : 0 ≤ t2 ∧ t2 ≤ 65535 := by rw [ht2]; exact HT.out.2.2 (j + 1)
            have ct2 := HCT.out _ HS.out.1 (j + 1) hlt2
            rw [← ht2] at ct2
            have HTN : Hid (tyN T la (j + 1) = tagT t2) := by unfold tyN; rw [if_pos (by rw [HT.out.1]; exact hlt2), ← ht2]; rfl
            have ht0 : (j : Int) + 1 < (tm : Int) := by omega
            clear ht2
            obtain ⟨q, hq, hq3⟩ : ∃ q : Nat, (q : Int) = t2 % 3 ∧ q < 3 := ⟨(t2 % 3).toNat, by omega, by omega⟩
            have cq := HS.out.1.held q hq3
            have HTN2 : Hid (tagT t2 = [33024, 34984, 37120].getD q 0) := by
              unfold tagT
              have : (t2 % 3).toNat = q := by omega
              rw [this]; rfl
            obtain ⟨gq, hgq⟩ : ∃ gq : Int, gq = [33024, 34984, 37120].getD q 0 := ⟨_, rfl⟩
            rw [← hgq] at cq HTN2
            have HQQ : Hid ((q : Int) = t2 % 3) := hq
            clear hq hgq
            have hq1 : t2 % 3 < 3 := by omega
            have hq0 : 0 ≤ t2 % 3 := by omega
            have hqt : (t2 % 3).toNat = q := by have := HQQ.out; omega
            go_wp2
            go_meet
            exact ⟨by rw [HTN.out, HTN2.out], rfl⟩
          · have HTN : Hid (tyN T la (j + 1) = la) := by unfold tyN; rw [if_neg (by rw [HT.out.1]; exact hlt2)]; rfl
            go_wp2
            go_meet
            exact ⟨by rw [HTN.out], rfl⟩
        case rest =>
        obtain ⟨rfl, rfl⟩ := hcut
        have htnb : 0 ≤ tyN T la (j + 1) ∧ tyN T la (j + 1) ≤ 65535 := tyN_b T la (j + 1) hlab
        obtain ⟨tn, htn⟩ : ∃ tn, tn = tyN T la (j + 1) := ⟨_, rfl⟩
        have HTN : Hid (tn = tyN T la (j + 1)) := htn
        rw [← htn] at htnb ⊢
        clear htn
        have hs := HS.out.1.size
        go_wp2_with (go_at_call 11; refine (put_b (w.heap.size + 1) _ (Lj ++ w16 tv) tn _ HS.out.2 htnb (by simp [w16]; omega) hs).mono ?_; rintro e w2 ⟨v2, rfl, hO2, hb2⟩)
        go_roundg (tm - (j + 1))
        case measure => omega
        case rel =>
          refine ⟨j + 1, by omega, rfl, by go_num, ?_⟩
          have := HS.out.put hO2 hb2
          rw [HLJ.out, HTV.out, HTN.out, ← tagL_succ] at this
          exact this
      · obtain rfl : j = tm := by omega
        go_wp2
        go_meet
        exact HS
  case rest =>
  clear HS
  have HS := hcut
  clear hcut
  obtain ⟨L0, hL0⟩ : ∃ L0, L0 = tagL T la tm := ⟨_, rfl⟩
  have hL0n : 14 ≤ L0.length ∧ L0.length ≤ 2000 := by rw [hL0, tagL_len]; omega
  have HL0 : Hid (L0 = tagL T la tm) := hL0
  rw [← hL0] at HS
  clear hL0
  -- v6
  obtain ⟨v6, hv6⟩ : ∃ v6, v6 = decide (typ / 4 % 2 = 1) := ⟨_, rfl⟩
  have HV6 : Hid (v6 = decide (typ / 4 % 2 = 1)) := hv6
  clear hv6
  go_upto_region 31 with fail
  go_cut [20] (fun t wx => t = .bool v6 ∧ wx = wc)
  case first => as_aux_lemma =>
    have e4 := and_4 typ htyp
    by_cases h4 : typ / 4 % 2 = 1
    · have HV : Hid (v6 = true) := HV6.out.trans (decide_eq_true h4)
      go_wp2
      go_meet
      exact ⟨by rw [HV.out], rfl⟩
    · have HV : Hid (v6 = false) := HV6.out.trans (decide_eq_false h4)
      have h40 : typ / 4 % 2 = 0 := by omega
      go_wp2
      go_meet
      exact ⟨by rw [HV.out], rfl⟩
  case rest =>
  obtain ⟨rfl, rfl⟩ := hcut
  -- the part behind the tags
  obtain ⟨adr, hadr⟩ : ∃ adr, adr = decide (typ % 2 = 1) := ⟨_, rfl⟩
  obtain ⟨cmp, hcmp⟩ : ∃ cmp, cmp = decide (typ / 2 % 2 = 1) := ⟨_, rfl⟩
  obtain ⟨nl, hnl⟩ : ∃ nl : Nat, (nl : Int) = labels % 5 := ⟨(labels % 5).toNat, by omega⟩
  have hnl5 : nl < 5 := by omega
  have HADR : Hid (adr = decide (typ % 2 = 1)) := hadr
  have HCMP : Hid (cmp = decide (typ / 2 % 2 = 1)) := hcmp
  have HNL : Hid ((nl : Int) = labels % 5) := hnl
  clear hadr hcmp hnl
  go_upto_block 3 with fail
  go_cut [14, 19] (fun v t wx => t = .int .u16 (wantK kn v6 typ) ∧ Hid (BSt w wx v (stL kn adr cmp v6 nl typ L0)))
  case first =>
    rcases (show kn = 0 ∨ kn = 1 ∨ kn = 2 ∨ kn = 3 by omega) with h | h | h | h <;> subst h
    · as_aux_lemma =>
      go_wp2
      go_meet
      exact ⟨by rw [HLA.out]; rfl, HS⟩
    · as_aux_lemma =>
      have hs := HS.out.1.size
      go_upto_region 34 with fail
      go_cut [14] (fun v wx => Hid (BSt w wx v (L0 ++ [17, 0, 0, 1, 0, 0])))
      case first => as_aux_lemma =>
        go_wp2_with (first | (refine build6 rfl 17 0 0 1 0 0 rfl ?_) | (at_builtin; refine append_bytes rfl (.tmp 102) (.tmp 103) rfl (w.heap.size + 1) _ L0 rfl _ _ _ [17, 0, 0, 1, 0, 0] rfl (HS.out.2.alloc _) (src_six _ _ _ _ _ _ _) (by omega) (by simp; omega) ?_; intro v3 w3 hO3 hb3))
        go_meet
        exact HS.out.put hO3.out (((Below.refl _ _).alloc hs _).trans hb3.out)
      case rest =>
      clear HS hs
      have HS := hcut
      clear hcut
      obtain ⟨L1, hL1⟩ : ∃ L1, L1 = L0 ++ [17, 0, 0, 1, 0, 0] := ⟨_, rfl⟩
      have HL1 : Hid (L1 = L0 ++ [17, 0, 0, 1, 0, 0]) := hL1
      have hL1n : L1.length ≤ 2010 := by rw [hL1]; simp; omega
      rw [← hL1] at HS
      clear hL1
      have hs := HS.out.1.size
      have e1 := and_1 typ htyp
      go_upto_if 107 with fail
      go_cut [14] (fun v wx => Hid (BSt w wx v (L1 ++ cAdr adr)))
      case first => as_aux_lemma =>
        by_cases h1 : typ % 2 = 1
        · have HA : Hid (adr = true) := HADR.out.trans (decide_eq_true h1)
          go_wp2_with (at_builtin; refine append_bytes rfl (.tmp 108) (.tmp 109) rfl (w.heap.size + 1) _ L1 rfl _ _ _ [255, 3] rfl (HS.out.2.alloc _) (src_two _ _ _) (by omega) (by simp; omega) ?_; intro v3 w3 hO3 hb3)
          go_meet
          rw [HA.out]
          exact HS.out.put hO3.out (((Below.refl _ _).alloc hs _).trans hb3.out)
        · have HA : Hid (adr = false) := HADR.out.trans (decide_eq_false h1)
          have h10 : typ % 2 = 0 := by omega
          go_wp2
          go_meet
          rw [HA.out]
          show BSt _ _ _ (L1 ++ []); rw [List.append_nil]; exact HS.out
      case rest =>
      clear HS hs e1
      have HS := hcut
      clear hcut
      obtain ⟨L2, hL2⟩ : ∃ L2, L2 = L1 ++ cAdr adr := ⟨_, rfl⟩
      have HL2 : Hid (L2 = L1 ++ cAdr adr) := hL2
      have hL2n : L2.length ≤ 2020 := by
        have h2 : (cAdr adr).length ≤ 2 := by cases adr <;> simp [cAdr]
        rw [hL2, List.length_append]; omega
      rw [← hL2] at HS
      clear hL2
      have hs := HS.out.1.size
      have e2 := and_2 typ htyp
      go_upto_if 113 with fail
      go_cut [14] (fun v wx => Hid (BSt w wx v (L2 ++ cPro cmp v6)))
      case first => as_aux_lemma =>
        by_cases h1 : typ / 2 % 2 = 1
        · have HC : Hid (cmp = true) := HCMP.out.trans (decide_eq_true h1)
          cases v6
          · go_wp2_with (at_builtin; refine append_bytes rfl (.tmp 118) (.tmp 119) rfl (w.heap.size + 1) _ L2 rfl _ _ _ [33] rfl (HS.out.2.alloc _) (src_one _ _) (by omega) (by simp; omega) ?_; intro v3 w3 hO3 hb3)
            go_meet
            rw [HC.out]
            exact HS.out.put hO3.out (((Below.refl _ _).alloc hs _).trans hb3.out)
          · go_wp2_with (at_builtin; refine append_bytes rfl (.tmp 115) (.tmp 116) rfl (w.heap.size + 1) _ L2 rfl _ _ _ [87] rfl (HS.out.2.alloc _) (src_one _ _) (by omega) (by simp; omega) ?_; intro v3 w3 hO3 hb3)
            go_meet
            rw [HC.out]
            exact HS.out.put hO3.out (((Below.refl _ _).alloc hs _).trans hb3.out)
        · have HC : Hid (cmp = false) := HCMP.out.trans (decide_eq_false h1)
          have h10 : typ / 2 % 2 = 0 := by omega
          cases v6
          · go_wp2_with (go_at_call 11; refine (put_b (w.heap.size + 1) _ L2 33 _ HS.out.2 (by omega) (by omega) hs).mono ?_; rintro e w2 ⟨v2, rfl, hO2, hb2⟩)
            go_meet
            rw [HC.out]
            exact HS.out.put hO2 hb2
          · go_wp2_with (go_at_call 11; refine (put_b (w.heap.size + 1) _ L2 87 _ HS.out.2 (by omega) (by omega) hs).mono ?_; rintro e w2 ⟨v2, rfl, hO2, hb2⟩)
            go_meet
            rw [HC.out]
            exact HS.out.put hO2 hb2
      case rest =>
      clear HS hs e2
      have HS := hcut
      clear hcut
      have HE : Hid (BSt w wc u14 (stL 1 adr cmp v6 nl typ L0)) := by
        have := HS.out
        rw [HL2.out, HL1.out] at this
        exact this
      cases v6
      · go_wp2
        go_meet
        exact ⟨rfl, HE⟩
      · go_wp2
        go_meet
        exact ⟨rfl, HE⟩
    · as_aux_lemma =>
      go_upto_region 49 with fail
      go_cut [21] (fun v wx => v = .int .i64 nl ∧ wx = wc)
      case first => as_aux_lemma =>
        go_wp2
        go_meet
        exact ⟨by rw [HNL.out], rfl⟩
      case rest =>
      obtain ⟨rfl, rfl⟩ := hcut
      go_upto_block 4 with fail
      go_cut [14] (fun v wx => Hid (BSt w wx v (L0 ++ labL nl)))
      case first => as_aux_lemma =>
        go_wp2_with fail
        go_loopg [14, 22] nl (fun gk v i wr => ∃ j : Nat, j ≤ nl ∧ gk = nl - j ∧ i = .int .i64 j ∧ Hid (BSt w wr v (L0 ++ labL j)))
        case atStart =>
          refine ⟨0, Nat.zero_le _, rfl, rfl, ?_⟩
          show BSt _ _ _ (L0 ++ []); rw [List.append_nil]; exact HS.out
        case round =>
          clear HS
          obtain ⟨j, hj, rfl, rfl, HS⟩ := hrel
          have hs := HS.out.1.size
          have hll : (L0 ++ labL j).length ≤ 2100 := by rw [List.length_append, labL_len]; omega
          by_cases hlt : j < nl
          · go_wp2_with (first | (refine build4 rfl 0 16 0 64 rfl ?_) | (at_builtin; refine append_bytes rfl (.tmp 138) (.tmp 139) rfl (w.heap.size + 1) _ (L0 ++ labL j) rfl _ _ _ [0, 16, 0, 64] rfl (HS.out.2.alloc _) (src_four _ _ _ _ _) (by omega) (by simp; omega) ?_; intro v3 w3 hO3 hb3))
            go_roundg (nl - (j + 1))
            case measure => omega
            case rel =>
              refine ⟨j + 1, by omega, rfl, by go_num, ?_⟩
              have := HS.out.put hO3.out (((Below.refl _ _).alloc hs _).trans hb3.out)
              rw [List.append_assoc] at this
              exact this
          · obtain rfl : j = nl := by omega
            go_wp2
            go_meet
            exact HS
      case rest =>
      clear HS
      have HS := hcut
      clear hcut
      obtain ⟨L1, hL1⟩ : ∃ L1, L1 = L0 ++ labL nl := ⟨_, rfl⟩
      have HL1 : Hid (L1 = L0 ++ labL nl) := hL1
      have hL1n : L1.length ≤ 2100 := by rw [hL1, List.length_append, labL_len]; omega
      rw [← hL1] at HS
      clear hL1
      have hs := HS.out.1.size
      go_upto_region 54 with fail
      go_cut [14] (fun v wx => Hid (BSt w wx v (L1 ++ [0, 16, 1, 64])))
      case first => as_aux_lemma =>
        go_wp2_with (first | (refine build4 rfl 0 16 1 64 rfl ?_) | (at_builtin; refine append_bytes rfl (.tmp 141) (.tmp 142) rfl (w.heap.size + 1) _ L1 rfl _ _ _ [0, 16, 1, 64] rfl (HS.out.2.alloc _) (src_four _ _ _ _ _) (by omega) (by simp; omega) ?_; intro v3 w3 hO3 hb3))
        go_meet
        exact HS.out.put hO3.out (((Below.refl _ _).alloc hs _).trans hb3.out)
      case rest =>
      clear HS hs
      have HS := hcut
      clear hcut
      obtain ⟨L2, hL2⟩ : ∃ L2, L2 = L1 ++ [0, 16, 1, 64] := ⟨_, rfl⟩
      have HL2 : Hid (L2 = L1 ++ [0, 16, 1, 64]) := hL2
      have hL2n : 4 ≤ L2.length ∧ L2.length ≤ 2110 := by rw [hL2]; simp; omega
      rw [← hL2] at HS
      clear hL2
      have HE : Hid (BSt w wc u14 (stL 2 adr cmp v6 nl typ L0)) := by
        have := HS.out
        rw [HL2.out, HL1.out] at this
        exact this
      cases v6
      · go_wp2
        go_meet
        exact ⟨rfl, HE⟩
      · go_wp2
        go_meet
        exact ⟨rfl, HE⟩
    · as_aux_lemma =>
      go_upto_region 49 with fail
      go_cut [21] (fun v wx => v = .int .i64 nl ∧ wx = wc)
      case first => as_aux_lemma =>
        go_wp2
        go_meet
        exact ⟨by rw [HNL.out], rfl⟩
      case rest =>
      obtain ⟨rfl, rfl⟩ := hcut
      go_upto_block 4 with fail
      go_cut [14] (fun v wx => Hid (BSt w wx v (L0 ++ labL nl)))
      case first => as_aux_lemma =>
        go_wp2_with fail
        go_loopg [14, 22] nl (fun gk v i wr => ∃ j : Nat, j ≤ nl ∧ gk = nl - j ∧ i = .int .i64 j ∧ Hid (BSt w wr v (L0 ++ labL j)))
        case atStart =>
          refine ⟨0, Nat.zero_le _, rfl, rfl, ?_⟩
          show BSt _ _ _ (L0 ++ []); rw [List.append_nil]; exact HS.out
        case round =>
          clear HS
          obtain ⟨j, hj, rfl, rfl, HS⟩ := hrel
          have hs := HS.out.1.size
          have hll : (L0 ++ labL j).length ≤ 2100 := by rw [List.length_append, labL_len]; omega
          by_cases hlt : j < nl
          · go_wp2_with (first | (refine build4 rfl 0 16 0 64 rfl ?_) | (at_builtin; refine append_bytes rfl (.tmp 138) (.tmp 139) rfl (w.heap.size + 1) _ (L0 ++ labL j) rfl _ _ _ [0, 16, 0, 64] rfl (HS.out.2.alloc _) (src_four _ _ _ _ _) (by omega) (by simp; omega) ?_; intro v3 w3 hO3 hb3))
            go_roundg (nl - (j + 1))
            case measure => omega
            case rel =>
              refine ⟨j + 1, by omega, rfl, by go_num, ?_⟩
              have := HS.out.put hO3.out (((Below.refl _ _).alloc hs _).trans hb3.out)
              rw [List.append_assoc] at this
              exact this
          · obtain rfl : j = nl := by omega
            go_wp2
            go_meet
            exact HS
      case rest =>
      clear HS
      have HS := hcut
      clear hcut
      obtain ⟨L1, hL1⟩ : ∃ L1, L1 = L0 ++ labL nl := ⟨_, rfl⟩
      have HL1 : Hid (L1 = L0 ++ labL nl) := hL1
      have hL1n : L1.length ≤ 2100 := by rw [hL1, List.length_append, labL_len]; omega
      rw [← hL1] at HS
      clear hL1
      have hs := HS.out.1.size
      go_upto_region 54 with fail
      go_cut [14] (fun v wx => Hid (BSt w wx v (L1 ++ [0, 16, 1, 64])))
      case first => as_aux_lemma =>
        go_wp2_with (first | (refine build4 rfl 0 16 1 64 rfl ?_) | (at_builtin; refine append_bytes rfl (.tmp 141) (.tmp 142) rfl (w.heap.size + 1) _ L1 rfl _ _ _ [0, 16, 1, 64] rfl (HS.out.2.alloc _) (src_four _ _ _ _ _) (by omega) (by simp; omega) ?_; intro v3 w3 hO3 hb3))
        go_meet
        exact HS.out.put hO3.out (((Below.refl _ _).alloc hs _).trans hb3.out)
      case rest =>
      clear HS hs
      have HS := hcut
      clear hcut
      obtain ⟨L2, hL2⟩ : ∃ L2, L2 = L1 ++ [0, 16, 1, 64] := ⟨_, rfl⟩
      have HL2 : Hid (L2 = L1 ++ [0, 16, 1, 64]) := hL2
      have hL2n : 4 ≤ L2.length ∧ L2.length ≤ 2110 := by rw [hL2]; simp; omega
      rw [← hL2] at HS
      clear hL2
      have hs := HS.out.1.size
      go_upto_region 59 with fail
      go_cut [14] (fun v wx => Hid (BSt w wx v (L2 ++ [0, 0, 0, 0])))
      case first => as_aux_lemma =>
        go_wp2_with (first | (refine build4 rfl 0 0 0 0 rfl ?_) | (at_builtin; refine append_bytes rfl (.tmp 147) (.tmp 148) rfl (w.heap.size + 1) _ L2 rfl _ _ _ [0, 0, 0, 0] rfl (HS.out.2.alloc _) (src_four _ _ _ _ _) (by omega) (by simp; omega) ?_; intro v3 w3 hO3 hb3))
        go_meet
        exact HS.out.put hO3.out (((Below.refl _ _).alloc hs _).trans hb3.out)
      case rest =>
      clear HS hs
      have HS := hcut
      clear hcut
      obtain ⟨L3, hL3⟩ : ∃ L3, L3 = L2 ++ [0, 0, 0, 0] := ⟨_, rfl⟩
      have HL3 : Hid (L3 = L2 ++ [0, 0, 0, 0]) := hL3
      have hL3n : 4 ≤ L3.length ∧ L3.length ≤ 2120 := by rw [hL3]; simp; omega
      rw [← hL3] at HS
      clear hL3
      have hs := HS.out.1.size
      go_upto_region 60 with fail
      go_cut [14] (fun v wx => Hid (BSt w wx v (L3 ++ z12)))
      case first => as_aux_lemma =>
        go_wp2_with (at_builtin; refine append_z12 rfl (.tmp 150) rfl (w.heap.size + 1) _ L3 rfl HS.out.2 (by omega) (by omega) hs ?_; intro v3 w3 hO3 hb3)
        go_meet
        exact HS.out.put hO3.out hb3.out
      case rest =>
      clear HS hs
      have HS := hcut
      clear hcut
      obtain ⟨L4, hL4⟩ : ∃ L4, L4 = L3 ++ z12 := ⟨_, rfl⟩
      have HL4 : Hid (L4 = L3 ++ z12) := hL4
      have hL4n : 4 ≤ L4.length ∧ L4.length ≤ 2140 := by rw [hL4]; simp [z12]; omega
      rw [← hL4] at HS
      clear hL4
      go_upto_if 154 with (go_at_call 10; refine (spc_any _ _).mono ?_; rintro e w2 ⟨rfl, rfl⟩)
      go_cut [23] (fun v wx => v = .int .u16 (plainT typ) ∧ Hid (BSt w wx u14 L4))
      case first => as_aux_lemma =>
        cases hsp : spc typ
        · have HSP : Hid (spc typ = false) := hsp
          clear hsp
          go_wp2
          go_meet
          exact ⟨by unfold plainT; rw [HSP.out]; rfl, HS⟩
        · have HSP : Hid (spc typ = true) := hsp
          clear hsp
          go_wp2
          go_meet
          exact ⟨by unfold plainT; rw [HSP.out]; rfl, HS⟩
      case rest =>
      clear HS
      obtain ⟨rfl, HS⟩ := hcut
      have hpb := plainT_b typ htyp
      obtain ⟨inn, hinn⟩ : ∃ inn, inn = plainT typ := ⟨_, rfl⟩
      have HINN : Hid (inn = plainT typ) := hinn
      rw [← hinn] at hpb ⊢
      clear hinn
      have hs := HS.out.1.size
      go_wp2_with (go_at_call 11; refine (put_b (w.heap.size + 1) _ L4 inn _ HS.out.2 hpb (by omega) hs).mono ?_; rintro e w2 ⟨v2, rfl, hO2, hb2⟩)
      go_meet
      refine ⟨by rw [HINN.out]; rfl, ?_⟩
      have := HS.out.put hO2 hb2
      rw [HL4.out, HL3.out, HL2.out, HL1.out, HINN.out] at this
      exact this
  case rest =>
  obtain ⟨rfl, HS2⟩ := hcut
  clear HS
  have HS := HS2
  clear HS2
  obtain ⟨L5, hL5⟩ : ∃ L5, L5 = stL kn adr cmp v6 nl typ L0 := ⟨_, rfl⟩
  have HL5 : Hid (L5 = stL kn adr cmp v6 nl typ L0) := hL5
  have hL5n : 14 ≤ L5.length ∧ L5.length ≤ 2200 := by
    have := stL_len kn adr cmp v6 nl typ L0 hnl5
    rw [hL5]; omega
  rw [← hL5] at HS
  clear hL5
  obtain ⟨wk, hwk⟩ : ∃ wk, wk = wantK kn v6 typ := ⟨_, rfl⟩
  have HWK : Hid (wk = wantK kn v6 typ) := hwk
  rw [← hwk]
  clear hwk
  obtain ⟨g5, c5, hv5, _, hc5, hm5, _⟩ := HS.out.2.shape (by omega)
  unfold maxLen at hm5
  subst hv5
  go_upto_if 162 with fail
  go_cut [14] (fun v wx => Hid (BSt w wx v (L5 ++ ipK kn v6)))
  case first => as_aux_lemma =>
    have hs := HS.out.1.size
    by_cases hk2 : kn = 2
    · subst hk2
      cases v6
      · go_wp2_with (at_builtin; refine append_bytes rfl (.tmp 167) (.tmp 168) rfl (w.heap.size + 1) _ L5 rfl _ _ _ [69] rfl (HS.out.2.alloc _) (src_one _ _) (by omega) (by simp; omega) ?_; intro v3 w3 hO3 hb3)
        go_meet
        exact HS.out.put hO3.out (((Below.refl _ _).alloc hs _).trans hb3.out)
      · go_wp2_with (at_builtin; refine append_bytes rfl (.tmp 164) (.tmp 165) rfl (w.heap.size + 1) _ L5 rfl _ _ _ [96] rfl (HS.out.2.alloc _) (src_one _ _) (by omega) (by simp; omega) ?_; intro v3 w3 hO3 hb3)
        go_meet
        exact HS.out.put hO3.out (((Below.refl _ _).alloc hs _).trans hb3.out)
    · have hb2 : ((kn : Int) == 2) = false := beq_eq_false_iff_ne.2 (by omega)
      have HIP : Hid (ipK kn v6 = []) := by unfold ipK; rw [if_neg hk2]; rfl
      rw [hb2]
      clear hb2
      go_wp2
      go_meet
      rw [HIP.out, List.append_nil]
      exact HS
  case rest =>
  clear HS hc5 hm5
  have HS := hcut
  clear hcut
  obtain ⟨L6, hL6⟩ : ∃ L6, L6 = L5 ++ ipK kn v6 := ⟨_, rfl⟩
  have HL6 : Hid (L6 = L5 ++ ipK kn v6) := hL6
  have hL6n : L5.length ≤ L6.length ∧ L6.length ≤ 2210 := by
    have h1 : (ipK kn v6).length ≤ 1 := by unfold ipK ipB; split <;> (try split) <;> simp
    rw [hL6, List.length_append]; omega
  rw [← hL6] at HS
  clear hL6
  have hs := HS.out.1.size
  have HQ6 : Hid (Src wc qa qn qc Q) := HQ.out.below HS.out.1.below
  go_upto_region 71 with fail
  go_cut [14] (fun v wx => Hid (BSt w wx v (L6 ++ Q)))
  case first => as_aux_lemma =>
    go_wp2_with (at_builtin; refine append_bytes rfl (.tmp 170) (.tmp 171) rfl (w.heap.size + 1) _ L6 rfl qa qn qc Q rfl HS.out.2 HQ6.out (by omega) hs ?_; intro v3 w3 hO3 hb3)
    go_meet
    exact HS.out.put hO3.out hb3.out
  case rest =>
  clear HS hs HQ6
  have HS := hcut
  clear hcut
  have hQl : Q.length = qn := HQ.out.1
  obtain ⟨F, hF⟩ : ∃ F, F = L6 ++ Q := ⟨_, rfl⟩
  have HF : Hid (F = L6 ++ Q) := hF
  have hFn : L5.length ≤ F.length ∧ F.length ≤ 7000 := by rw [hF, List.length_append]; omega
  rw [← hF] at HS
  clear hF hQl
  obtain ⟨g, c, hv, _, hc, hm, _⟩ := HS.out.2.shape (by omega)
  unfold maxLen at hm
  subst hv
  have HLies : Hid (Lies wc g F.length (zz F)) := HS.out.2.lies
  have HEQ : Hid (F = (stL kn adr cmp v6 nl typ (tagL T (lastv kn typ) T.length) ++ ipK kn v6) ++ Q) := by
    rw [HF.out, HL6.out, HL5.out, HL0.out, HLA.out, HT.out.1]; rfl
  have HR : Hid (etherM F.length (zz F) = some (wk, L5.length)) := by
    have := built_all kn hkn T adr cmp v6 nl typ Q F HEQ.out
    rw [this, HWK.out, HL5.out, HL0.out, HLA.out, HT.out.1]; rfl
  have HBF : Hid (IsB (zz F)) := by
    refine zz_isB F ?_
    rw [HEQ.out]
    exact bytes_all kn adr cmp v6 nl typ htyp _ Q (bytes_tags T _ (lastv_b kn typ htyp) HT.out.2.2 _) HBQ.out
  have HV : Hid (SlAt g F.length c 0 (.slice (some ⟨g, 0, none⟩) F.length c)) := ⟨_, F.length, c, rfl, by omega, by omega, by omega, fun _ => rfl⟩
  clear HEQ HF HL6 HL5 HL0 HBQ HWK hL6n
  go_upto_region 73 with (go_at_call 7; refine (ether_any g F.length c _ (zz F) _ HV.out (by omega) HBF.out HLies.out).mono ?_; rintro e w2 ⟨he, hb2⟩; rw [HR.out] at he; obtain ⟨a', m, c', rfl, hk, hmc, ha'⟩ := he)
  have HL2 : Hid (Lies w2 g F.length (zz F)) := HLies.out.below hb2
  have HB2 : Hid (Below w.heap.size w w2) := HS.out.1.below.trans (hb2.mono HS.out.1.below.size)
  have HK : Hid (L5.length + m = F.length) := hk
  have HA : Hid (0 < m → a' = ⟨g, L5.length, none⟩) := ha'
  have hkn' : (L5.length : Int) ≤ (F.length : Int) := by omega
  have hlen : ((m : Int) == (F.length : Int) - (L5.length : Int)) = true := by simp; omega
  obtain ⟨N, hN⟩ : ∃ N, N = F.length := ⟨_, rfl⟩
  obtain ⟨k, hkk⟩ : ∃ k, k = L5.length := ⟨_, rfl⟩
  rw [← hN] at HL2 HK hlen hkn' hc ⊢
  rw [← hkk] at HK HA hlen hkn' ⊢
  have hN7 : N ≤ 7000 := by omega
  clear hb2 hk ha' HLies HV HBF HR HS hN hkk hFn hL5n
  by_cases hck : c = k
  · obtain rfl := hck
    obtain rfl : N = c := by have := HK.out; omega
    obtain rfl : 0 = m := by have := HK.out; omega
    clear hlen hkn'
    go_wp2_with (go_at_call 9; refine (equal_at g N N N 0 _ _ _ _ _ (zz F) _ HK.out (by omega) HA.out ?_ HL2.out).mono ?_; (intro h; omega); rintro e w4 ⟨rfl, rfl⟩)
    go_ret
    exact ⟨rfl, HB2.out⟩
  · go_wp2_with (go_at_call 9; refine (equal_at g N N k m _ _ _ _ _ (zz F) _ HK.out (by omega) HA.out ?_ HL2.out).mono ?_; (intro h; rfl); rintro e w4 ⟨rfl, rfl⟩)
    go_ret
    exact ⟨rfl, HB2.out⟩

end Go.Proofs.Ybulkcexy.Frame
