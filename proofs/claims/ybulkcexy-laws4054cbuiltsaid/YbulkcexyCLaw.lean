/-
  The walk of LawS4054CBuilt.
-/
import Derived.Test.YbulkcexyL2tp
import Derived.Test.YbulkcexyAppend
import Derived.LaidEqlPtr
namespace Go.Proofs.Ybulkcexy.Frame
open Go.RowKit
set_option linter.unusedVariables false
set_option maxRecDepth 100000

/-- Behind the entry: nothing that was there has turned; the boxed struct lies in the first new block. -/
structure Inv (w wx : World) (cs : List Value) : Prop where
  below : Below w.heap.size w wx
  size : w.heap.size + 1 ≤ wx.heap.size
  held : ∀ i v, cs[i]? = some v → wx.cell? ⟨w.heap.size, i, none⟩ = some v

theorem Inv.start (w : World) (cs : List Value) (t : TypeId) : Inv w (w.alloc (.cells cs.toArray t)) cs :=
  ⟨(Below.refl _ _).alloc (Nat.le_refl _) _, by simp, fun i v h => by simpa using h⟩

theorem Inv.next {w wx wy : World} {cs : List Value} (h : Inv w wx cs) (hb : Below (w.heap.size + 1) wx wy) : Inv w wy cs :=
  ⟨h.below.trans (hb.mono (by omega)), Nat.le_trans h.size hb.size, fun i v hv => (hb.cell (p := ⟨w.heap.size, i, none⟩) (by show w.heap.size < w.heap.size + 1; omega)).trans (h.held i v hv)⟩

theorem c_pad (cs : List Value) (w : World) (pa : Option Addr) (pn pc : Nat) (h : 1024 < pn)
    (v0 v1 v2 v3 v4 v5 v6 v7 v8 v9 v10 v12 v13 v14 v15 : Value) :
    Calls Yba.prog 6 #[.agg #[v0, v1, v2, v3, v4, v5, v6, v7, v8, v9, v10, .slice pa pn pc, v12, v13, v14, v15]] w fun e w' => e = .returned (.bool true) ∧ Below w.heap.size w w' := by
  go_enter Yba.func6, Yba.ntmps6
  go_wp2
  go_ret
  exact ⟨rfl, (Below.refl _ _).alloc (Nat.le_refl _) _⟩

theorem c_pay (cs : List Value) (w : World) (pa qa : Option Addr) (pn pc qn qc : Nat) (h0 : pn ≤ 1024) (h : 1024 < qn)
    (v0 v1 v2 v3 v4 v5 v6 v7 v8 v9 v10 v12 v13 v14 : Value) :
    Calls Yba.prog 6 #[.agg #[v0, v1, v2, v3, v4, v5, v6, v7, v8, v9, v10, .slice pa pn pc, v12, v13, v14, .slice qa qn qc]] w fun e w' => e = .returned (.bool true) ∧ Below w.heap.size w w' := by
  go_enter Yba.func6, Yba.ntmps6
  go_wp2
  go_ret
  exact ⟨rfl, (Below.refl _ _).alloc (Nat.le_refl _) _⟩

/-- .. and the slice value v owns the bytes L. -/
def CSt (w wx : World) (cs : List Value) (v : Value) (L : List Int) : Prop := Inv w wx cs ∧ Own wx (w.heap.size + 1) v L

theorem CSt.put {w wx wy : World} {cs : List Value} {v v' : Value} {L L' : List Int} (h : CSt w wx cs v L) (hO : Own wy (w.heap.size + 1) v' L') (hb : Below (w.heap.size + 1) wx wy) : CSt w wy cs v' L' := ⟨h.1.next hb, hO⟩

theorem Own.shape {w : World} {B : Nat} {v : Value} {L : List Int} (h : Own w B v L) (hL : 0 < L.length) : ∃ g c, v = .slice (some ⟨g, 0, none⟩) L.length c ∧ B ≤ g ∧ L.length ≤ c ∧ c ≤ maxLen ∧ g < w.heap.size := by
  rcases h.2 with ⟨_, h0⟩ | ⟨g, cap, cur, hv, hb, hg, hn, hm, _⟩
  · omega
  · exact ⟨g, cap, hv, hb, hn, hm, (Array.getElem?_eq_some_iff.1 hg).1⟩

theorem Own.lies {w : World} {B g c : Nat} {L : List Int} (h : Own w B (.slice (some ⟨g, 0, none⟩) L.length c) L) : Lies w g L.length (zz L) := by
  intro i hi
  have := World.ownsRow.cellAt h i (by omega)
  rw [this]
  simp [zz, List.getD, hi]

theorem src_one (w : World) (x : Int) : Src (w.alloc (.cells #[.int .u8 x] 5)) (some ⟨w.heap.size, 0, none⟩) 1 1 [x] := by
  refine ⟨rfl, (fun h => by cases h), fun ad ha j hj => ?_⟩
  obtain rfl := Option.some.inj ha
  match j, hj with
  | 0, _ => simp [Addr.add]

theorem bytes_built (F : Int) (len seq off adr cmp v6 : Bool) (ln tid sid ns nr : Int) (P Q : List Int) (hF : 0 ≤ F ∧ F ≤ 65535) (hln : 0 ≤ ln ∧ ln ≤ 65535) (htid : 0 ≤ tid ∧ tid ≤ 65535) (hsid : 0 ≤ sid ∧ sid ≤ 65535) (hns : 0 ≤ ns ∧ ns ≤ 65535) (hnr : 0 ≤ nr ∧ nr ≤ 65535)
    (hp : P.length ≤ 1024) (bP : ∀ x ∈ P, 0 ≤ x ∧ x ≤ 255) (bQ : ∀ x ∈ Q, 0 ≤ x ∧ x ≤ 255) :
    ∀ x ∈ ((((((((w16 F ++ cLen len ln) ++ w16 tid) ++ w16 sid) ++ cSeq seq ns nr) ++ cOff off P) ++ cAdr adr) ++ cPro cmp v6) ++ Q), 0 ≤ x ∧ x ≤ 255 := by
  intro x hx
  simp only [List.mem_append] at hx
  rcases hx with (((((((h | h) | h) | h) | h) | h) | h) | h) | h
  · exact w16_b hF x h
  · cases len
    · cases h
    · exact w16_b hln x h
  · exact w16_b htid x h
  · exact w16_b hsid x h
  · cases seq
    · cases h
    · rcases List.mem_append.1 h with h | h
      · exact w16_b hns x h
      · exact w16_b hnr x h
  · cases off
    · cases h
    · rcases List.mem_append.1 h with h | h
      · exact w16_b (by omega) x h
      · exact bP x h
  · cases adr <;> simp [cAdr] at h; omega
  · cases cmp <;> cases v6 <;> simp [cPro, prv] at h <;> omega
  · exact bQ x h

theorem neq_ptr_same (w : World) (a : Addr) : (binOp .neq 37 (.pointer (some a)) (.pointer (some a))).run Yba.prog w = .ok (.bool false) w := by
  obtain ⟨i0, hi, _⟩ := info_parts info5
  have h : ∀ d : Nat, (Op.equalIn (d + 1) 37 (.pointer (some a)) (.pointer (some a))).run Yba.prog w = .ok true w := fun d => by
    simp [Op.equalIn, run_underlying Yba.underlying37, sizeOf, typeInfo, hi, run_sameAddr_same]
  simp only [binOp]
  simp [Op.equal, Op.maxDepth, h 9999]

theorem or16 (x k : Nat) (K : Int) (hK : K = (k : Int)) (hx : x < 65536) (hk : k < 65536) : bits .or .u16 (x : Int) K = ((x ||| k : Nat) : Int) := by
  subst hK; exact u16_or_nat x k hx hk

set_option maxHeartbeats 4000000 in
theorem c_main (w : World) (ver res : Nat) (ctl len seq off adr cmp v6 : Bool) (ln tid sid ns nr : Int) (pa qa : Option Addr) (pn pc qn qc : Nat) (P Q : List Int)
    (hver : ver < 256) (hres : res < 65536) (hln : 0 ≤ ln ∧ ln ≤ 65535) (htid : 0 ≤ tid ∧ tid ≤ 65535) (hsid : 0 ≤ sid ∧ sid ≤ 65535) (hns : 0 ≤ ns ∧ ns ≤ 65535) (hnr : 0 ≤ nr ∧ nr ≤ 65535)
    (hpn : pn ≤ 1024) (hqn : qn ≤ 1024) (hP : Src w pa pn pc P) (hQ : Src w qa qn qc Q) (bP : ∀ x ∈ P, 0 ≤ x ∧ x ≤ 255) (bQ : ∀ x ∈ Q, 0 ≤ x ∧ x ≤ 255) :
    Calls Yba.prog 6 #[.agg #[.int .u8 ver, .bool ctl, .bool len, .bool seq, .bool off, .int .u16 res, .int .u16 ln, .int .u16 tid, .int .u16 sid, .int .u16 ns, .int .u16 nr, .slice pa pn pc, .bool adr, .bool cmp, .bool v6, .slice qa qn qc]] w fun e w' => e = .returned (.bool true) ∧ Below w.heap.size w w' := by
  obtain ⟨cs, hcs⟩ : ∃ cs : List Value, cs = [.int .u8 ver, .bool ctl, .bool len, .bool seq, .bool off, .int .u16 res, .int .u16 ln, .int .u16 tid, .int .u16 sid, .int .u16 ns, .int .u16 nr, .slice pa pn pc, .bool adr, .bool cmp, .bool v6, .slice qa qn qc] := ⟨_, rfl⟩
  have HP : Hid (Src w pa pn pc P) := hP
  have HQ : Hid (Src w qa qn qc Q) := hQ
  have HCS : Hid (cs = [.int .u8 ver, .bool ctl, .bool len, .bool seq, .bool off, .int .u16 res, .int .u16 ln, .int .u16 tid, .int .u16 sid, .int .u16 ns, .int .u16 nr, .slice pa pn pc, .bool adr, .bool cmp, .bool v6, .slice qa qn qc]) := hcs
  clear hP hQ hcs
  go_enter Yba.func6, Yba.ntmps6
  go_upto_region 4 with fail
  go_cut [4] (fun t wx => t = .int .u16 (flg0 ver res : Nat) ∧ Hid (Inv w wx cs))
  case first => as_aux_lemma =>
    go_wp2
    go_meet
    refine ⟨?_, ?_⟩
    · rw [show bits .and .u16 (res : Int) 13808 = ((res &&& 13808 : Nat) : Int) from u16_and_nat res 13808 hres (by omega), show ((ver : Int) % 16) = ((ver % 16 : Nat) : Int) by omega,
        u16_or_nat _ _ (Nat.lt_of_le_of_lt Nat.and_le_left hres) (by omega)]
      rfl
    · show Inv w _ cs
      rw [HCS.out]
      exact Inv.start w _ 40
  case rest =>
  obtain ⟨rfl, HI⟩ := hcut
  have hc1 := HI.out.held 1 (.bool ctl) (by rw [HCS.out]; rfl)
  have hc2 := HI.out.held 2 (.bool len) (by rw [HCS.out]; rfl)
  have hc3 := HI.out.held 3 (.bool seq) (by rw [HCS.out]; rfl)
  have hc4 := HI.out.held 4 (.bool off) (by rw [HCS.out]; rfl)
  obtain ⟨F0, hF0, hF0b⟩ : ∃ F0, F0 = flg0 ver res ∧ F0 < 65536 := ⟨_, rfl, flg0_lt _ _ hres⟩
  have HF0 : Hid (F0 = flg0 ver res) := hF0
  rw [← hF0]
  clear hF0
  go_upto_if 33 with fail
  go_cut [4] (fun t wx => t = .int .u16 (orIf ctl F0 32768 : Nat) ∧ wx = wc)
  case first => as_aux_lemma =>
    clear hc2 hc3 hc4
    cases ctl
    · go_wp2
      go_meet
      exact ⟨rfl, rfl⟩
    · go_wp2
      go_meet
      exact ⟨by rw [or16 F0 32768 32768 rfl hF0b (by omega)]; rfl, rfl⟩
  case rest =>
  obtain ⟨rfl, rfl⟩ := hcut
  obtain ⟨F1, hF1, hF1b⟩ : ∃ F1, F1 = orIf ctl F0 32768 ∧ F1 < 65536 := ⟨_, rfl, orIf_lt _ _ _ hF0b (by omega)⟩
  have HF1 : Hid (F1 = orIf ctl F0 32768) := hF1
  rw [← hF1]
  clear hF1 hc1
  go_upto_if 37 with fail
  go_cut [4] (fun t wx => t = .int .u16 (orIf len F1 16384 : Nat) ∧ wx = wc)
  case first => as_aux_lemma =>
    clear hc3 hc4
    cases len
    · go_wp2
      go_meet
      exact ⟨rfl, rfl⟩
    · go_wp2
      go_meet
      exact ⟨by rw [or16 F1 16384 16384 rfl hF1b (by omega)]; rfl, rfl⟩
  case rest =>
  obtain ⟨rfl, rfl⟩ := hcut
  obtain ⟨F2, hF2, hF2b⟩ : ∃ F2, F2 = orIf len F1 16384 ∧ F2 < 65536 := ⟨_, rfl, orIf_lt _ _ _ hF1b (by omega)⟩
  have HF2 : Hid (F2 = orIf len F1 16384) := hF2
  rw [← hF2]
  clear hF2 hc2
  go_upto_if 41 with fail
  go_cut [4] (fun t wx => t = .int .u16 (orIf seq F2 2048 : Nat) ∧ wx = wc)
  case first => as_aux_lemma =>
    clear hc4
    cases seq
    · go_wp2
      go_meet
      exact ⟨rfl, rfl⟩
    · go_wp2
      go_meet
      exact ⟨by rw [or16 F2 2048 2048 rfl hF2b (by omega)]; rfl, rfl⟩
  case rest =>
  obtain ⟨rfl, rfl⟩ := hcut
  obtain ⟨F3, hF3, hF3b⟩ : ∃ F3, F3 = orIf seq F2 2048 ∧ F3 < 65536 := ⟨_, rfl, orIf_lt _ _ _ hF2b (by omega)⟩
  have HF3 : Hid (F3 = orIf seq F2 2048) := hF3
  rw [← hF3]
  clear hF3 hc3
  go_upto_if 45 with fail
  go_cut [4] (fun t wx => t = .int .u16 (orIf off F3 512 : Nat) ∧ wx = wc)
  case first => as_aux_lemma =>
    cases off
    · go_wp2
      go_meet
      exact ⟨rfl, rfl⟩
    · go_wp2
      go_meet
      exact ⟨by rw [or16 F3 512 512 rfl hF3b (by omega)]; rfl, rfl⟩
  case rest =>
  obtain ⟨rfl, rfl⟩ := hcut
  obtain ⟨F, hF, hFb⟩ : ∃ F, F = orIf off F3 512 ∧ F < 65536 := ⟨_, rfl, orIf_lt _ _ _ hF3b (by omega)⟩
  have HF : Hid (F = flg ver res ctl len seq off) := by rw [hF, HF3.out, HF2.out, HF1.out, HF0.out]; rfl
  rw [← hF]
  clear hF hc4 HF0 HF1 HF2 HF3 hF0b hF1b hF2b hF3b F0 F1 F2 F3
  have hFB : 0 ≤ (F : Int) ∧ (F : Int) ≤ 65535 := by omega
  -- the bytes: make, then the flags
  have hc11 := HI.out.held 11 (.slice pa pn pc) (by rw [HCS.out]; rfl)
  have hc15 := HI.out.held 15 (.slice qa qn qc) (by rw [HCS.out]; rfl)
  obtain ⟨i0, hi, hz0, hz1, hz2⟩ := info_parts info5
  have hsz0 := HI.out.size
  go_upto_region 14 with (at_make; refine wpList_make_own _ rfl (.const (.int .i64 0)) (.tmp 55) 22 rfl (w.heap.size + 1) 5 i0 (.int .u8 0) 1 Yba.underlying22 hi hz0 hz1 .i64 .i64 _ (20 + pn + qn) rfl rfl (by omega) (by rw [hz2]; omega) (by unfold maxLen; omega) hsz0 ?_; intro w1 hown1 hg1)
  have hb1 : Below (w.heap.size + 1) wc w1 := (Below.refl _ _).grown hg1 hsz0 (fun k hk => by cases hk)
  have HI1 : Hid (Inv w w1 cs) := HI.out.next hb1
  have HO1 : Hid (Own w1 (w.heap.size + 1) (.slice (some ⟨wc.heap.size, 0, none⟩) 0 (20 + pn + qn)) []) := hown1
  clear hown1 hg1 hb1 hc11 hc15 hi hz0 hz1 hz2 hsz0
  have hs1 := HI1.out.size
  go_cut [5] (fun v wx => Hid (CSt w wx cs v (w16 F)))
  case first => as_aux_lemma =>
    go_wp2_with (go_at_call 14; refine (put_c (w.heap.size + 1) _ [] F _ HO1.out hFB (by simp) hs1).mono ?_; rintro e w2 ⟨v2, rfl, hO2, hb2⟩)
    go_meet
    exact ⟨HI1.out.next hb2, hO2⟩
  case rest =>
  have HS := hcut
  clear hcut HI HI1 HO1 hs1
  obtain ⟨L1, hL, hL1⟩ : ∃ L, L = w16 F ∧ L.length ≤ 2 := ⟨_, rfl, by simp [w16]⟩
  have HL1 : Hid (L1 = w16 F) := hL
  rw [← hL] at HS
  clear hL
  have hs := HS.out.1.size
  have hc2 := HS.out.1.held 2 (.bool len) (by rw [HCS.out]; rfl)
  have hc6 := HS.out.1.held 6 (.int .u16 ln) (by rw [HCS.out]; rfl)
  go_upto_if 61 with fail
  go_cut [5] (fun v wx => Hid (CSt w wx cs v (L1 ++ cLen len ln)))
  case first => as_aux_lemma =>
    cases len
    · go_wp2
      go_meet
      show CSt _ _ _ _ (L1 ++ []); rw [List.append_nil]; exact HS.out
    · go_wp2_with (go_at_call 14; refine (put_c (w.heap.size + 1) _ L1 ln _ HS.out.2 hln (by omega) hs).mono ?_; rintro e w2 ⟨v2, rfl, hO2, hb2⟩)
      go_meet
      exact HS.out.put hO2 hb2
  case rest =>
  clear hs hc2 hc6 HS
  have HS := hcut
  clear hcut
  obtain ⟨L2, hL, hL2⟩ : ∃ L, L = L1 ++ cLen len ln ∧ L.length ≤ 4 := ⟨_, rfl, by have h2 : (cLen len ln).length ≤ 2 := (by cases len <;> simp [cLen, w16]); rw [List.length_append]; omega⟩
  have HL2 : Hid (L2 = L1 ++ cLen len ln) := hL
  rw [← hL] at HS
  clear hL
  have hs := HS.out.1.size
  have hcf := HS.out.1.held 7 (.int .u16 tid) (by rw [HCS.out]; rfl)
  go_upto_region 17 with fail
  go_cut [5] (fun v wx => Hid (CSt w wx cs v (L2 ++ w16 tid)))
  case first => as_aux_lemma =>
    go_wp2_with (go_at_call 14; refine (put_c (w.heap.size + 1) _ L2 tid _ HS.out.2 htid (by omega) hs).mono ?_; rintro e w2 ⟨v2, rfl, hO2, hb2⟩)
    go_meet
    exact HS.out.put hO2 hb2
  case rest =>
  clear hs hcf HS
  have HS := hcut
  clear hcut
  obtain ⟨L3, hL, hL3⟩ : ∃ L, L = L2 ++ w16 tid ∧ L.length ≤ 6 := ⟨_, rfl, by simp [w16]; omega⟩
  have HL3 : Hid (L3 = L2 ++ w16 tid) := hL
  rw [← hL] at HS
  clear hL
  have hs := HS.out.1.size
  have hcf := HS.out.1.held 8 (.int .u16 sid) (by rw [HCS.out]; rfl)
  go_upto_region 18 with fail
  go_cut [5] (fun v wx => Hid (CSt w wx cs v (L3 ++ w16 sid)))
  case first => as_aux_lemma =>
    go_wp2_with (go_at_call 14; refine (put_c (w.heap.size + 1) _ L3 sid _ HS.out.2 hsid (by omega) hs).mono ?_; rintro e w2 ⟨v2, rfl, hO2, hb2⟩)
    go_meet
    exact HS.out.put hO2 hb2
  case rest =>
  clear hs hcf HS
  have HS := hcut
  clear hcut
  obtain ⟨L4, hL, hL4⟩ : ∃ L, L = L3 ++ w16 sid ∧ L.length ≤ 8 := ⟨_, rfl, by simp [w16]; omega⟩
  have HL4 : Hid (L4 = L3 ++ w16 sid) := hL
  rw [← hL] at HS
  clear hL
  have hs := HS.out.1.size
  have hc3 := HS.out.1.held 3 (.bool seq) (by rw [HCS.out]; rfl)
  have hc9 : ∀ wx, Inv w wx cs → wx.cell? ⟨w.heap.size, 9, none⟩ = some (.int .u16 ns) := fun wx h => h.held 9 (.int .u16 ns) (by rw [HCS.out]; rfl)
  have hc10 : ∀ wx, Inv w wx cs → wx.cell? ⟨w.heap.size, 10, none⟩ = some (.int .u16 nr) := fun wx h => h.held 10 (.int .u16 nr) (by rw [HCS.out]; rfl)
  have HC9 : Hid (∀ wx, Inv w wx cs → wx.cell? ⟨w.heap.size, 9, none⟩ = some (.int .u16 ns)) := hc9
  have HC10 : Hid (∀ wx, Inv w wx cs → wx.cell? ⟨w.heap.size, 10, none⟩ = some (.int .u16 nr)) := hc10
  clear hc9 hc10
  go_upto_if 75 with fail
  go_cut [5] (fun v wx => Hid (CSt w wx cs v (L4 ++ cSeq seq ns nr)))
  case first => as_aux_lemma =>
    cases seq
    · go_wp2
      go_meet
      show CSt _ _ _ _ (L4 ++ []); rw [List.append_nil]; exact HS.out
    · have g9 := HC9.out _ HS.out.1
      go_upto_region 21 with (go_at_call 14; refine (put_c (w.heap.size + 1) _ L4 ns _ HS.out.2 hns (by omega) hs).mono ?_; rintro e w2 ⟨v2, rfl, hO2, hb2⟩)
      have HS2 : Hid (CSt w w2 cs v2 (L4 ++ w16 ns)) := HS.out.put hO2 hb2
      have g10 := HC10.out _ HS2.out.1
      have hs2 := HS2.out.1.size
      clear hO2 hb2 g9 hc3
      go_wp2_with (go_at_call 14; refine (put_c (w.heap.size + 1) _ (L4 ++ w16 ns) nr _ HS2.out.2 hnr (by simp [w16]; omega) hs2).mono ?_; rintro e w3 ⟨v3, rfl, hO3, hb3⟩)
      go_meet
      have hS3 := HS2.out.put hO3 hb3
      rw [List.append_assoc] at hS3
      exact hS3
  case rest =>
  clear hs hc3 HC9 HC10 HS
  have HS := hcut
  clear hcut
  obtain ⟨L5, hL, hL5⟩ : ∃ L, L = L4 ++ cSeq seq ns nr ∧ L.length ≤ 12 := ⟨_, rfl, by have h2 : (cSeq seq ns nr).length ≤ 4 := (by cases seq <;> simp [cSeq, w16]); rw [List.length_append]; omega⟩
  have HL5 : Hid (L5 = L4 ++ cSeq seq ns nr) := hL
  rw [← hL] at HS
  clear hL
  have hs := HS.out.1.size
  have hc4 := HS.out.1.held 4 (.bool off) (by rw [HCS.out]; rfl)
  go_upto_if 85 with fail
  go_cut [5] (fun v wx => Hid (CSt w wx cs v (L5 ++ cOff off P)))
  case first => as_aux_lemma =>
    cases off
    · go_wp2
      go_meet
      show CSt _ _ _ _ (L5 ++ []); rw [List.append_nil]; exact HS.out
    · have g11 := HS.out.1.held 11 (.slice pa pn pc) (by rw [HCS.out]; rfl)
      go_upto_region 24 with (go_at_call 14; refine (put_c (w.heap.size + 1) _ L5 pn _ HS.out.2 (by omega) (by omega) hs).mono ?_; rintro e w2 ⟨v2, rfl, hO2, hb2⟩)
      have HS2 : Hid (CSt w w2 cs v2 (L5 ++ w16 pn)) := HS.out.put hO2 hb2
      have g11' := HS2.out.1.held 11 (.slice pa pn pc) (by rw [HCS.out]; rfl)
      have hs2 := HS2.out.1.size
      have HP2 : Hid (Src w2 pa pn pc P) := HP.out.below HS2.out.1.below
      clear hO2 hb2 g11 hc4
      go_wp2_with (at_builtin; refine append_bytes rfl (.tmp 92) (.tmp 94) rfl (w.heap.size + 1) v2 (L5 ++ w16 pn) rfl pa pn pc P rfl HS2.out.2 HP2.out (by simp [w16]; omega) hs2 ?_; intro v3 w3 hO3 hb3)
      go_meet
      have hS3 := HS2.out.put hO3.out hb3.out
      rw [List.append_assoc, ← HP.out.1] at hS3
      exact hS3
  case rest =>
  clear hs hc4 HS
  have HS := hcut
  clear hcut
  obtain ⟨L6, hL, hL6⟩ : ∃ L, L = L5 ++ cOff off P ∧ L.length ≤ 1038 := ⟨_, rfl, by have h2 : (cOff off P).length ≤ 1026 := (by have := HP.out.1; cases off <;> simp [cOff, w16]; omega); rw [List.length_append]; omega⟩
  have HL6 : Hid (L6 = L5 ++ cOff off P) := hL
  rw [← hL] at HS
  clear hL
  have hs := HS.out.1.size
  have hc12 := HS.out.1.held 12 (.bool adr) (by rw [HCS.out]; rfl)
  go_upto_if 97 with fail
  go_cut [5] (fun v wx => Hid (CSt w wx cs v (L6 ++ cAdr adr)))
  case first => as_aux_lemma =>
    cases adr
    · go_wp2
      go_meet
      show CSt _ _ _ _ (L6 ++ []); rw [List.append_nil]; exact HS.out
    · go_wp2_with (at_builtin; refine append_bytes rfl (.tmp 98) (.tmp 99) rfl (w.heap.size + 1) _ L6 rfl _ _ _ [255, 3] rfl (HS.out.2.alloc _) (src_two _ _ _) (by omega) (by simp; omega) ?_; intro v3 w3 hO3 hb3)
      go_meet
      exact HS.out.put hO3.out (((Below.refl _ _).alloc hs _).trans hb3.out)
  case rest =>
  clear hs hc12 HS
  have HS := hcut
  clear hcut
  obtain ⟨L7, hL, hL7⟩ : ∃ L, L = L6 ++ cAdr adr ∧ L.length ≤ 1040 := ⟨_, rfl, by have h2 : (cAdr adr).length ≤ 2 := (by cases adr <;> simp [cAdr]); rw [List.length_append]; omega⟩
  have HL7 : Hid (L7 = L6 ++ cAdr adr) := hL
  rw [← hL] at HS
  clear hL
  have hs := HS.out.1.size
  have hc14 := HS.out.1.held 14 (.bool v6) (by rw [HCS.out]; rfl)
  have hc13 := HS.out.1.held 13 (.bool cmp) (by rw [HCS.out]; rfl)
  go_upto_if 102 with fail
  go_cut [6] (fun t wx => t = .int .u8 (prv v6) ∧ wx = wc)
  case first => as_aux_lemma =>
    clear hc13
    cases v6
    · go_wp2
      go_meet
      exact ⟨rfl, rfl⟩
    · go_wp2
      go_meet
      exact ⟨rfl, rfl⟩
  case rest =>
  obtain ⟨rfl, rfl⟩ := hcut
  clear hc14
  obtain ⟨pv, hpv⟩ : ∃ pv, pv = prv v6 := ⟨_, rfl⟩
  have HPV : Hid (pv = prv v6) := hpv
  have hpb : 0 ≤ pv ∧ pv ≤ 255 := by rw [hpv]; cases v6 <;> simp [prv]
  rw [← hpv]
  clear hpv
  go_upto_if 104 with fail
  go_cut [5] (fun v wx => Hid (CSt w wx cs v (L7 ++ cPro cmp v6)))
  case first => as_aux_lemma =>
    cases cmp
    · go_wp2_with (at_builtin; refine append_bytes rfl (.tmp 109) (.tmp 111) rfl (w.heap.size + 1) _ L7 rfl _ _ _ [0, pv] rfl (HS.out.2.alloc _) (src_two _ _ _) (by omega) (by simp; omega) ?_; intro v3 w3 hO3 hb3)
      go_meet
      have hS3 := HS.out.put hO3.out (((Below.refl _ _).alloc hs _).trans hb3.out)
      rw [HPV.out] at hS3
      exact hS3
    · go_wp2_with (at_builtin; refine append_bytes rfl (.tmp 105) (.tmp 107) rfl (w.heap.size + 1) _ L7 rfl _ _ _ [pv] rfl (HS.out.2.alloc _) (src_one _ _) (by omega) (by simp; omega) ?_; intro v3 w3 hO3 hb3)
      go_meet
      have hS3 := HS.out.put hO3.out (((Below.refl _ _).alloc hs _).trans hb3.out)
      rw [HPV.out] at hS3
      exact hS3
  case rest =>
  clear hs hc13 HPV hpb HS
  have HS := hcut
  clear hcut
  obtain ⟨L8, hL, hL8⟩ : ∃ L, L = L7 ++ cPro cmp v6 ∧ L.length ≤ 1042 := ⟨_, rfl, by have h2 : (cPro cmp v6).length ≤ 2 := (by cases cmp <;> simp [cPro]); rw [List.length_append]; omega⟩
  have HL8 : Hid (L8 = L7 ++ cPro cmp v6) := hL
  rw [← hL] at HS
  clear hL
  have hL8p : 2 ≤ L8.length := by
    have : 2 ≤ L1.length := by rw [HL1.out]; simp [w16]
    have e : L8.length = L1.length + (cLen len ln).length + (w16 tid).length + (w16 sid).length + (cSeq seq ns nr).length + (cOff off P).length + (cAdr adr).length + (cPro cmp v6).length := by
      rw [HL8.out, HL7.out, HL6.out, HL5.out, HL4.out, HL3.out, HL2.out]; simp only [List.length_append]
    omega
  obtain ⟨g8, c8, hv8, _, hc8, hm8, _⟩ := HS.out.2.shape (by omega)
  unfold maxLen at hm8
  subst hv8
  have hs := HS.out.1.size
  have hc15 := HS.out.1.held 15 (.slice qa qn qc) (by rw [HCS.out]; rfl)
  have HQ8 : Hid (Src wc qa qn qc Q) := HQ.out.below HS.out.1.below
  go_upto_region 34 with fail
  go_cut [5] (fun v wx => Hid (CSt w wx cs v (L8 ++ Q)))
  case first => as_aux_lemma =>
    go_wp2_with (at_builtin; refine append_bytes rfl (.tmp 115) (.tmp 117) rfl (w.heap.size + 1) _ L8 rfl qa qn qc Q rfl HS.out.2 HQ8.out (by omega) hs ?_; intro v3 w3 hO3 hb3)
    go_meet
    exact HS.out.put hO3.out hb3.out
  case rest =>
  clear hs hc15 HQ8 hc8 hm8 HS
  have HS := hcut
  clear hcut
  have hQl : Q.length = qn := HQ.out.1
  obtain ⟨L9, hL, hL9⟩ : ∃ L, L = L8 ++ Q ∧ L.length = L8.length + qn := ⟨_, rfl, by rw [List.length_append, hQl]⟩
  have HL9 : Hid (L9 = L8 ++ Q) := hL
  rw [← hL] at HS
  have HN9 : Hid (L9.length = L8.length + qn) := hL9
  have hn9 : 2 ≤ L9.length ∧ L9.length ≤ 3000 := by omega
  have HQL : Hid (Q.length = qn) := hQl
  clear hL hL9 hQl
  obtain ⟨g9, c9, hv9, _, hc9, hm9, _⟩ := HS.out.2.shape (by omega)
  unfold maxLen at hm9
  subst hv9
  have HLies : Hid (Lies wc g9 L9.length (zz L9)) := HS.out.2.lies
  have hnil := fun (w : World) (a : Option Addr) (n c n' c' : Nat) => Lib.run_eql_slice_nil (P := Yba.prog) w 22 5 a n c n' c' Yba.underlying22
  have HB9 : Hid (IsB (zz L9)) := by
    refine zz_isB L9 ?_
    rw [HL9.out, HL8.out, HL7.out, HL6.out, HL5.out, HL4.out, HL3.out, HL2.out, HL1.out]
    exact bytes_built F len seq off adr cmp v6 ln tid sid ns nr P Q hFB hln htid hsid hns hnr (by rw [HP.out.1]; exact hpn) bP bQ
  have HE9 : Hid (L9 = (((cHd F len seq ln tid sid ns nr ++ cOff off P) ++ cAdr adr) ++ cPro cmp v6) ++ Q) := by
    rw [HL9.out, HL8.out, HL7.out, HL6.out, HL5.out, HL4.out, HL3.out, HL2.out, HL1.out]; rfl
  have HE8 : Hid (L8 = ((cHd F len seq ln tid sid ns nr ++ cOff off P) ++ cAdr adr) ++ cPro cmp v6) := by
    rw [HL8.out, HL7.out, HL6.out, HL5.out, HL4.out, HL3.out, HL2.out, HL1.out]; rfl
  have hbe : be (zz L9) 0 = F := by
    rw [HE9.out]; unfold cHd
    simp only [List.append_assoc]
    exact be_w16 [] _ F 0 rfl
  have f15 := flg_15 ver res ctl len seq off
  have f14 := flg_14 ver res ctl len seq off
  have f11 := flg_11 ver res ctl len seq off
  have f9 := flg_9 ver res ctl len seq off
  have fm := flg_mod ver res ctl len seq off
  rw [← HF.out] at f15 f14 f11 f9 fm
  have HREF : Hid (ctl = true ∨ ¬ ver % 16 = 2 → l2M L9.length (zz L9) (be (zz L9) 0) = none) := by
    intro h
    rw [hbe]
    exact l2_refused _ _ _ ctl (by rw [← f15]; omega) (by rcases h with h | h; exact Or.inl h; right; omega)
  have HDEC : Hid (ctl = false → ver % 16 = 2 → l2M L9.length (zz L9) (be (zz L9) 0) = some (wantv v6, L8.length)) := by
    intro h1 h2
    have := l2_built F ctl len seq off adr cmp v6 ln tid sid ns nr P Q (by rw [HP.out.1]; exact hpn) (by rw [← f15]; omega) (by rw [← f14]; omega) (by rw [← f11]; omega) (by rw [← f9]; omega) h1 (by omega) L9 HE9.out
    rw [this, ← HE8.out]
  clear f15 f14 f11 f9 fm hbe HE8 HF HP bP bQ HL1 HL2 HL3 HL4 HL5 HL6 HL7 HL8 hL1 hL2 hL3 hL4 hL5 hL6 hL7 HE9
  have hc1 := HS.out.1.held 1 (.bool ctl) (by rw [HCS.out]; rfl)
  have hs := HS.out.1.size
  by_cases hok : ctl = false ∧ ver % 16 = 2
  · obtain ⟨rfl, hv2⟩ := hok
    have HR := HDEC.out rfl hv2
    have HR' : Hid (l2M L9.length (zz L9) (be (zz L9) 0) = some (wantv v6, L8.length)) := HR
    clear HR HREF HDEC
    go_upto_region 36 with (go_at_call 13; refine (l2tp_any g9 L9.length c9 (zz L9) _ (by omega) hc9 hm9 HB9.out HLies.out).mono ?_; rintro e w2 ⟨he, hb2⟩; rw [HR'.out] at he; obtain ⟨a', m, c', rfl, hk, hmc, ha'⟩ := he)
    obtain rfl : qn = m := by have := HN9.out; omega
    have HI2 : Hid (Inv w w2 cs) := HS.out.1.next (hb2.mono hs)
    have HLies2 : Hid (Lies w2 g9 L9.length (zz L9)) := HLies.out.below hb2
    have hc1' := HI2.out.held 1 (.bool false) (by rw [HCS.out]; rfl)
    have hc14 := HI2.out.held 14 (.bool v6) (by rw [HCS.out]; rfl)
    have hc15 := HI2.out.held 15 (.slice qa qn qc) (by rw [HCS.out]; rfl)
    have HQ2 : Hid (Src w2 qa qn qc Q) := HQ.out.below HI2.out.below
    have HA : Hid (0 < qn → a' = ⟨g9, L8.length, none⟩) := ha'
    clear hb2 hc1 HLies HS hs hk ha' HQ HR' HB9
    obtain ⟨wv, hwv⟩ : ∃ wv, wv = wantv v6 := ⟨_, rfl⟩
    have HWV : Hid (wv = wantv v6) := hwv
    rw [← hwv]
    clear hwv
    go_upto_if 142 with fail
    go_cut [11] (fun t wx => t = .int .u16 wv ∧ wx = w2)
    case first => as_aux_lemma =>
      clear hc15
      cases v6
      · go_wp2
        go_meet
        exact ⟨by rw [HWV.out]; rfl, rfl⟩
      · go_wp2
        go_meet
        exact ⟨by rw [HWV.out]; rfl, rfl⟩
    case rest =>
    obtain ⟨rfl, rfl⟩ := hcut
    clear hc14 hc1'
    by_cases hq0 : qn = 0
    · subst hq0
      have hd : decide ((0 : Int) < 0) = false := by decide
      go_wp2
      refine wp_loop_rounds 1 ?_; rw [rounds_succ]; go_wp2
      go_quiet (fail)
      go_wp2
      go_ret
      exact ⟨rfl, below_drewN HI2.out.below _⟩
    · obtain ⟨ad, rfl⟩ : ∃ ad, qa = some ad := by
        cases hqa : qa with
        | none => exact absurd (HQ2.out.2.1 hqa).1 hq0
        | some ad => exact ⟨ad, rfl⟩
      have hqp : 0 < qn := by omega
      obtain rfl := HA.out hqp
      clear HA
      go_wp2
      go_loopg [12] qn (fun gk i wr => ∃ k : Nat, k ≤ qn ∧ gk = qn - k ∧ i = .int .i64 k ∧ Hid (Below wc.heap.size wc wr))
      case atStart => exact ⟨0, Nat.zero_le _, rfl, rfl, Below.refl _ _⟩
      case round =>
        obtain ⟨k, hk, rfl, rfl, HBr⟩ := hrel
        by_cases hlt : k < qn
        · obtain ⟨qv, hqv⟩ : ∃ qv, qv = Q.getD k 0 := ⟨_, rfl⟩
          have q1 : wr.cell? ⟨g9, L8.length + k, none⟩ = some (.int .u8 qv) := by
            have h1 := HLies2.out (L8.length + k) (by have := HN9.out; omega)
            have h2 : zz L9 (L8.length + k) = qv := by rw [HL9.out, zz_app L8 Q k _ rfl, hqv]; rfl
            rw [h2] at h1
            exact (HBr.out.cell (World.block_lt_of_cell? _ _ h1)).trans h1
          have q2 : wr.cell? (ad.add k) = some (.int .u8 qv) := by
            have h1 := HQ2.out.2.2 ad rfl k hlt
            rw [← hqv] at h1
            exact (HBr.out.cell (World.block_lt_of_cell? _ _ h1)).trans h1
          have q3 : wr.cell? ⟨w.heap.size, 15, none⟩ = some (.slice (some ad) qn qc) := (HBr.out.cell (World.block_lt_of_cell? _ _ hc15)).trans hc15
          have hi1 : (k : Int) < (qn : Int) := by omega
          have hi0 : (0 : Int) ≤ (k : Int) := by omega
          clear hqv hc15
          go_wp2
          go_quiet (fail)
          go_wp2
          go_roundg (qn - (k + 1))
          case measure => omega
          case rel => exact ⟨k + 1, by omega, rfl, by go_num, below_drewN HBr.out _⟩
        · obtain rfl : qn = k := by omega
          have hd : (0 : Int) < (qn : Int) := by omega
          have hst : (L8.length : Int) < (L9.length : Int) := by have := HN9.out; omega
          clear hc15
          have hpp := neq_ptr_same
          go_wp2
          go_quiet (fail)
          go_wp2
          go_ret
          exact ⟨rfl, below_drewN (HI2.out.below.trans (HBr.out.mono HI2.out.below.size)) _⟩
  · have hok' : ctl = true ∨ ¬ ver % 16 = 2 := by
      by_cases h : ver % 16 = 2
      · left; cases ctl
        · exact absurd ⟨rfl, h⟩ hok
        · rfl
      · exact Or.inr h
    have HR' : Hid (l2M L9.length (zz L9) (be (zz L9) 0) = none) := HREF.out hok'
    clear hok HREF HDEC
    go_upto_region 36 with (go_at_call 13; refine (l2tp_any g9 L9.length c9 (zz L9) _ (by omega) hc9 hm9 HB9.out HLies.out).mono ?_; rintro e w2 ⟨he, hb2⟩; rw [HR'.out] at he; obtain rfl := he)
    have HI2 : Hid (Inv w w2 cs) := HS.out.1.next (hb2.mono hs)
    have hc1' := HI2.out.held 1 (.bool ctl) (by rw [HCS.out]; rfl)
    clear hb2 hc1
    by_cases hv2 : ver % 16 = 2
    · obtain rfl : true = ctl := by rcases hok' with h | h; exact h.symm; exact absurd hv2 h
      clear hok'
      go_wp2
      go_ret
      exact ⟨rfl, HI2.out.below⟩
    · clear hok'
      go_wp2
      go_ret
      exact ⟨rfl, HI2.out.below⟩

end Go.Proofs.Ybulkcexy.Frame
