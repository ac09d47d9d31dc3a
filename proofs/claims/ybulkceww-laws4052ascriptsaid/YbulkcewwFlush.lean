/-
  LawS4052AScript: Deliver.
-/
import Derived.Test.YbulkcewwSend
namespace Go.Proofs.Ybulkceww.Pipe
open Go.RowKit
set_option linter.unusedVariables false
set_option maxRecDepth 100000

section
variable {ρ ρ' : Nat → Nat} {w w' : World} {P X Y RY rX rh rY rR rl : Nat} {rcX mdY hvY : Value} {m0 m0' : Int} {iv : Value} {ms : List (Nat × Nat × Int)} {md hv : Value} {HL : List Int} {lv : Value} {L : List Int}

theorem vl_shape {r : Nat} {v : Value} (h : VL ρ w r v L) : ∃ a cap, v = .slice a L.length cap := by
  obtain ⟨xs, ho, _, _⟩ := h
  rcases ho.2 with ⟨h1, h2⟩ | ⟨g, cap, cur, hv, _⟩
  · exact ⟨none, 0, by rw [h1, h2]⟩
  · exact ⟨_, cap, hv⟩

theorem vl_cell {r n cap t : Nat} {av : Option Addr} (h : VL ρ w r (.slice av n cap) L) (hn : n = L.length) (ht : t < n) :
    ∃ g b c, av = some ⟨g, 0, none⟩ ∧ w.cell? ⟨g, t, none⟩ = some (.slice (some ⟨b, 0, none⟩) 1 c) ∧ Msu ρ w b (L.getD t 0) := by
  obtain ⟨xs, ho, _, hx⟩ := h
  rcases ho.2 with ⟨h1, h2⟩ | ⟨g, cap', cur, hv, _, hg, _, _, _, htk⟩
  · simp at h1; omega
  · simp at hv
    obtain ⟨b, c, e1, e2⟩ := hx t (by omega)
    refine ⟨g, b, c, hv.1, ?_, e2⟩
    rw [← htk, List.getElem?_take_of_lt (by omega)] at e1
    simp [World.cell?, hg]
    simpa using e1

theorem flush_bytes (ms : List (Nat × Nat × Int)) (b c : Nat) (x : Int) : bytes (ms ++ [(b, c, x)]) = bytes ms ++ [x] := by simp [bytes]
theorem take_snoc (L : List Int) (t : Nat) (h : t < L.length) : L.take (t + 1) = L.take t ++ [L.getD t 0] := by
  rw [List.take_add_one, List.getElem?_eq_getElem h]
  simp [List.getD, h]

theorem vl_nil (r : Nat) : VL ρ w r (.slice none 0 0) [] := ⟨[], ⟨rfl, Or.inl ⟨rfl, rfl⟩⟩, fun k e => by simp [Value.ownBlock] at e, fun i hi => absurd hi (by simp)⟩

theorem SJ.flush (j : SJ ρ w P X Y RY rX rh rY rR rl rcX mdY hvY m0 iv ms md hv HL lv L) (A : Apart rX rh rY rR rl) :
    SJ ρ ((w.setCell ⟨X, 3, none⟩ (.string dS)).setCell ⟨X, 4, none⟩ (.slice none 0 0)) P X Y RY rX rh rY rR rl rcX mdY hvY m0 iv ms (.string dS) (.slice none 0 0) [] lv L ∧ Upd (fun r => r = rX) ρ w ρ ((w.setCell ⟨X, 3, none⟩ (.string dS)).setCell ⟨X, 4, none⟩ (.slice none 0 0)) := by
  have u : Upd (fun r => r = rX) ρ w ρ ((w.setCell ⟨X, 3, none⟩ (.string dS)).setCell ⟨X, 4, none⟩ (.slice none 0 0)) := ((Upd.refl j.fr).set _ (Or.inr j.x.1)).set _ (Or.inr j.x.1)
  refine ⟨⟨u.fresh, j.p.keep u (fun e => A.x1 e.symm), j.q.keep u (fun e => A.x6 e.symm), j.y.keep u (fun e => A.xY e.symm), j.r.keep u (fun e => A.xR e.symm), j.l.keep u (fun e => A.xl e.symm) (fun e => A.x9 e.symm), fun y hy => (j.m y hy).keep u (fun e => A.x9 e.symm), (j.x.set3 _).set4 _, vl_nil _⟩, u⟩
end

set_option maxHeartbeats 4000000 in
theorem flush_any (ρ : Nat → Nat) (w : World) (P X Y RY rX rh rY rR rl : Nat) (rcX mdY hvY : Value) (iv : Value) (md hv : Value) (HL : List Int) (lv : Value) (L : List Int) (A : Apart rX rh rY rR rl)
    (hJ : SJ ρ w P X Y RY rX rh rY rR rl rcX mdY hvY 0 iv [] md hv HL lv L) (hlen : L.length ≤ 20000) (hlen2 : HL.length ≤ 20000) :
    Calls Yba.prog 8 #[.pointer (some ⟨X, 0, none⟩)] w fun e w' => e = .returned (.tuple #[]) ∧
      ∃ ρ' iv' lv', SJ ρ' w' P X Y RY rX rh rY rR rl rcX mdY hvY 0 iv' [] (.string dS) (.slice none 0 0) [] lv' (L ++ HL) ∧ Upd (Ss rX rh rR rl) ρ w ρ' w' := by
  obtain ⟨av, capv, hhv⟩ := vl_shape hJ.h
  obtain ⟨n, hn⟩ : ∃ n, n = HL.length := ⟨_, rfl⟩
  rw [← hn] at hhv hlen2
  subst hhv
  have HN : Hid (n = HL.length) := hn
  have HJ : Hid (SJ ρ w P X Y RY rX rh rY rR rl rcX mdY hvY 0 iv [] md (.slice av n capv) HL lv L) := hJ
  clear hJ hn
  have hmf : ∀ (fn : Fn) (first cap : Array Value) (w : World), (Instr.makeFunc fn first cap).run Yba.prog w = .ok (.func fn first cap) w := fun _ _ _ _ => rfl
  have c0 : w.cell? ⟨X, 0, none⟩ = some (.pointer (some ⟨P, 0, none⟩)) := HJ.out.x.2.cell (by omega)
  go_enter Yba.func8, Yba.ntmps8
  go_upto_region 1 with (go_at_call 11; refine (lock0 HJ.out.fr HJ.out.p).mono ?_; rintro e w2 ⟨rfl, p2, u2⟩)
  have J2 : Hid (SJ ρ w2 P X Y RY rX rh rY rR rl rcX mdY hvY 1 iv [] md (.slice av n capv) HL lv L) := HJ.out.lock A u2 p2
  have U2 : Hid (Upd (Ss rX rh rR rl) ρ w ρ w2) := u2.mono (fun r h => Or.inl h)
  clear c0 p2 u2 HJ
  have c4 : w2.cell? ⟨X, 4, none⟩ = some (.slice av n capv) := J2.out.x.2.cell (by omega)
  go_upto_block 0 with fail
  clear c4
  go_cut [] (fun wx => Hid (∃ ρr ivr ms, SJ ρr wx P X Y RY rX rh rY rR rl rcX mdY hvY 1 ivr ms md (.slice av n capv) HL lv L ∧ bytes ms = HL.take n ∧ ms.length = n ∧ Upd (Ss rX rh rR rl) ρ w ρr wx))
  case first =>
    go_wp2_with fail
    go_loopg [16] n (fun gk i wr => ∃ t : Nat, t ≤ n ∧ gk = n - t ∧ i = .int .i64 t ∧ ∃ ρr ivr ms, Hid (SJ ρr wr P X Y RY rX rh rY rR rl rcX mdY hvY 1 ivr ms md (.slice av n capv) HL lv L ∧ bytes ms = HL.take t ∧ ms.length = t ∧ Upd (Ss rX rh rR rl) ρ w ρr wr))
    case atStart => exact ⟨0, Nat.zero_le _, rfl, rfl, ρ, iv, [], J2.out, by simp [bytes], rfl, U2.out⟩
    case round =>
      clear J2 U2
      obtain ⟨t, ht, rfl, rfl, ρr, ivr, ms, HJ⟩ := hrel
      by_cases hlt : t < n
      · have htn : (t : Int) < (n : Int) := by omega
        have ht0 : (0 : Int) ≤ (t : Int) := by omega
        obtain ⟨g, b, c, rfl, hcell, hmsu⟩ := vl_cell HJ.out.1.h HN.out hlt
        have HM : Hid (Msu ρr wr b (HL.getD t 0)) := hmsu
        have HML : Hid (ms.length = t) := HJ.out.2.2.1
        clear hmsu
        have c0 : wr.cell? ⟨X, 0, none⟩ = some (.pointer (some ⟨P, 0, none⟩)) := HJ.out.1.x.2.cell (by omega)
        have c1 : wr.cell? ⟨X, 1, none⟩ = some (.pointer (some ⟨Y, 0, none⟩)) := HJ.out.1.x.2.cell (by omega)
        go_upto_region 4 with fail
        have JD : Hid (SJ ρr wr.drew P X Y RY rX rh rY rR rl rcX mdY hvY 1 ivr ms md (.slice (some ⟨g, 0, none⟩) n capv) HL lv L) := HJ.out.1.kept (Upd.refl HJ.out.1.fr).drew
        have MD : Hid (Msu ρr wr.drew b (HL.getD t 0)) := HM.out.keep (Upd.refl (S := fun _ => False) HJ.out.1.fr).drew (fun h => h)
        have hll : 0 + (ms.map (ent Y)).length ≤ 100000 := by rw [List.length_map, HML.out]; omega
        go_region_with (go_at_call 13; refine (add_any ρr wr.drew P Y b c 1 ivr 0 false (ms.map (ent Y)) JD.out.fr JD.out.p JD.out.q hll).mono ?_; rintro e w3 ⟨rfl, hadd⟩)
        all_goals obtain ⟨ρ3, iv3, p3, q3, u3⟩ := hadd
        all_goals have HF : Hid (∃ ρr ivr ms, SJ ρr w3 P X Y RY rX rh rY rR rl rcX mdY hvY 1 ivr ms md (.slice (some ⟨g, 0, none⟩) n capv) HL lv L ∧ bytes ms = HL.take (t + 1) ∧ ms.length = t + 1 ∧ Upd (Ss rX rh rR rl) ρ w ρr w3) := ⟨ρ3, iv3, ms ++ [(b, c, HL.getD t 0)], JD.out.added A MD.out u3 p3 q3, by rw [flush_bytes, HJ.out.2.1, take_snoc HL t (by have := HN.out; omega)], by rw [List.length_append, HML.out]; rfl, HJ.out.2.2.2.drew.trans (u3.mono (fun r h => h.elim Or.inl (fun h => Or.inr (Or.inl h))))⟩
        all_goals clear p3 q3 u3 JD MD HM HJ hcell c0 c1
        all_goals go_wp2
        all_goals go_roundg (n - (t + 1))
        all_goals first | omega | (obtain ⟨a1, a2, a3, a4⟩ := HF.out; exact ⟨t + 1, by omega, rfl, by go_num, a1, a2, a3, a4⟩)
      · go_wp2
        go_meet
        have : t = n := by omega
        subst this
        exact ⟨ρr, ivr, ms, HJ.out⟩
  case rest =>
  obtain ⟨ρ3, iv3, ms3, j3, hb3, hl3, u3⟩ := hcut.out
  have J3 : Hid (SJ ρ3 wc P X Y RY rX rh rY rR rl rcX mdY hvY 1 iv3 ms3 md (.slice av n capv) HL lv L) := j3
  have HB : Hid (bytes ms3 = HL) := by
    show _ = _
    rw [hb3, HN.out, List.take_length]
  have U3 : Hid (Upd (Ss rX rh rR rl) ρ w ρ3 wc) := u3
  have hl3' : ms3.length ≤ 20000 := by omega
  clear j3 hb3 u3 hcut hl3 J2 U2
  have c3 : wc.cell? ⟨X, 3, none⟩ = some md := J3.out.x.2.cell (by omega)
  have c4 : wc.cell? ⟨X, 4, none⟩ = some (.slice av n capv) := J3.out.x.2.cell (by omega)
  have f3 : wc.frozen? ⟨X, 3, none⟩ = false := J3.out.x.2.frozen 3
  have f4 : wc.frozen? ⟨X, 4, none⟩ = false := J3.out.x.2.frozen 4
  go_upto_region 7 with fail
  have J5 : Hid (SJ ρ3 ((wc.setCell ⟨X, 3, none⟩ (.string ⟨#[100, 101, 108, 105, 118, 101, 114]⟩)).setCell ⟨X, 4, none⟩ (.slice none 0 0)) P X Y RY rX rh rY rR rl rcX mdY hvY 1 iv3 ms3 (.string dS) (.slice none 0 0) [] lv L) := (J3.out.flush A).1
  have U5 : Hid (Upd (Ss rX rh rR rl) ρ w ρ3 ((wc.setCell ⟨X, 3, none⟩ (.string ⟨#[100, 101, 108, 105, 118, 101, 114]⟩)).setCell ⟨X, 4, none⟩ (.slice none 0 0))) := U3.out.trans ((J3.out.flush A).2.mono (fun r h => Or.inr (Or.inr (Or.inr (Or.inr (Or.inl h))))))
  clear c3 c4 f3 f4 J3 U3
  generalize (wc.setCell ⟨X, 3, none⟩ (.string ⟨#[100, 101, 108, 105, 118, 101, 114]⟩)).setCell ⟨X, 4, none⟩ (.slice none 0 0) = w5 at *
  have c0 : w5.cell? ⟨X, 0, none⟩ = some (.pointer (some ⟨P, 0, none⟩)) := J5.out.x.2.cell (by omega)
  go_upto_region 8 with (go_at_call 12; refine (unlock0 J5.out.fr J5.out.p).mono ?_; rintro e w6 ⟨rfl, p6, u6⟩)
  have J6 : Hid (SJ ρ3 w6.drew P X Y RY rX rh rY rR rl rcX mdY hvY 0 iv3 ms3 (.string dS) (.slice none 0 0) [] lv L) := (J5.out.lock A u6 p6).kept (Upd.refl u6.fresh).drew
  have U6 : Hid (Upd (Ss rX rh rR rl) ρ w ρ3 w6.drew) := (U5.out.trans (u6.mono (fun r h => Or.inl h))).drew
  have d0 : w6.cell? ⟨X, 0, none⟩ = some (.pointer (some ⟨P, 0, none⟩)) := (J5.out.lock A u6 p6).x.2.cell (by omega)
  clear p6 u6 J5 U5 c0
  go_region_with (go_at_call 14; refine (drain_sj J6.out A (by omega)).mono ?_; rintro e w7 ⟨rfl, hdr⟩)
  all_goals obtain ⟨ρ5, iv5, lv5, j5, u5⟩ := hdr
  all_goals rw [HB.out] at j5
  all_goals go_end0
  all_goals exact ⟨rfl, ρ5, iv5, lv5, j5, U6.out.trans (u5.mono (fun r h => h.elim Or.inl (fun h => Or.inr (h.elim Or.inl (fun h => Or.inr (h.elim Or.inl (fun h => Or.inr (Or.inl h))))))))⟩
end Go.Proofs.Ybulkceww.Pipe
