/-
  LawS4052AScript: Send, in its three modes.
-/
import Derived.Test.YbulkcewwEnds
namespace Go.Proofs.Ybulkceww.Pipe
open Go.RowKit
set_option linter.unusedVariables false
set_option maxRecDepth 100000

/-- The roles are apart. -/
structure Apart (rX rh rY rR rl : Nat) : Prop where
  x1 : rX ≠ 1
  x6 : rX ≠ 6
  xR : rX ≠ rR
  xl : rX ≠ rl
  x9 : rX ≠ 9
  xY : rX ≠ rY
  xh : rX ≠ rh
  h1 : rh ≠ 1
  h6 : rh ≠ 6
  hR : rh ≠ rR
  hl : rh ≠ rl
  h9 : rh ≠ 9
  hY : rh ≠ rY
  ne : rR ≠ rl
  l9 : rl ≠ 9
  R9 : rR ≠ 9
  E1 : rY ≠ 1
  R1 : rR ≠ 1
  l1 : rl ≠ 1
  E6 : rY ≠ 6
  R6 : rR ≠ 6
  l6 : rl ≠ 6
  ER : rY ≠ rR
  El : rY ≠ rl
  E0 : rY ≠ 0
  R0 : rR ≠ 0
  l0 : rl ≠ 0

def Ss (rX rh rR rl : Nat) : Nat → Prop := fun r => r = 1 ∨ r = 6 ∨ r = rR ∨ r = rl ∨ r = rX ∨ r = rh

/-- What lies around a call on end X: Y its peer, RY the receiver there. m0: the pipe's lock. -/
structure SJ (ρ : Nat → Nat) (w : World) (P X Y RY rX rh rY rR rl : Nat) (rcX mdY hvY : Value) (m0 : Int) (iv : Value) (ms : List (Nat × Nat × Int)) (md hv : Value) (HL : List Int) (lv : Value) (L : List Int) : Prop where
  fr : Fresh ρ w
  p : Pip ρ w P m0 0 iv (0 : Nat) false
  q : QS ρ w iv 0 (ms.map (ent Y))
  y : EndS ρ w rY Y P X (.iface 26 (.pointer (some ⟨RY, 0, none⟩))) mdY hvY
  r : Rcv ρ w rR RY lv
  l : VL ρ w rl lv L
  m : ∀ x ∈ ms, Msu ρ w x.1 x.2.2
  x : EndS ρ w rX X P Y rcX md hv
  h : VL ρ w rh hv HL

section
variable {ρ ρ' : Nat → Nat} {w w' : World} {P X Y RY rX rh rY rR rl : Nat} {rcX mdY hvY : Value} {m0 m0' : Int} {iv : Value} {ms : List (Nat × Nat × Int)} {md hv : Value} {HL : List Int} {lv : Value} {L : List Int}

theorem SJ.lock (j : SJ ρ w P X Y RY rX rh rY rR rl rcX mdY hvY m0 iv ms md hv HL lv L) (A : Apart rX rh rY rR rl) (u : Upd (fun r => r = 1) ρ w ρ w') (p : Pip ρ w' P m0' 0 iv (0 : Nat) false) : SJ ρ w' P X Y RY rX rh rY rR rl rcX mdY hvY m0' iv ms md hv HL lv L :=
  ⟨u.fresh, p, j.q.keep u (by decide), j.y.keep u (by simpa using A.E1), j.r.keep u (by simpa using A.R1), j.l.keep u (by simpa using A.l1) (by decide), fun y hy => (j.m y hy).keep u (by decide), j.x.keep u (by simpa using A.x1), j.h.keep u (by simpa using A.h1) (by decide)⟩

theorem SJ.kept (j : SJ ρ w P X Y RY rX rh rY rR rl rcX mdY hvY m0 iv ms md hv HL lv L) (u : Upd (fun _ => False) ρ w ρ w') : SJ ρ w' P X Y RY rX rh rY rR rl rcX mdY hvY m0 iv ms md hv HL lv L :=
  ⟨u.fresh, j.p.keep u (fun h => h), j.q.keep u (fun h => h), j.y.keep u (fun h => h), j.r.keep u (fun h => h), j.l.keep u (fun h => h) (fun h => h), fun y hy => (j.m y hy).keep u (fun h => h), j.x.keep u (fun h => h), j.h.keep u (fun h => h) (fun h => h)⟩

theorem SJ.added {b c : Nat} {x : Int} {iv' : Value} (j : SJ ρ w P X Y RY rX rh rY rR rl rcX mdY hvY m0 iv ms md hv HL lv L) (A : Apart rX rh rY rR rl) (hm : Msu ρ w b x) (u : Upd (fun r => r = 1 ∨ r = 6) ρ w ρ' w') (p : Pip ρ' w' P m0 0 iv' (0 : Nat) false)
    (q : QS ρ' w' iv' 0 (ms.map (ent Y) ++ [(.pointer (some ⟨Y, 0, none⟩), .slice (some ⟨b, 0, none⟩) 1 c)])) : SJ ρ' w' P X Y RY rX rh rY rR rl rcX mdY hvY m0 iv' (ms ++ [(b, c, x)]) md hv HL lv L :=
  ⟨u.fresh, p, by rw [List.map_append]; exact q, j.y.keep u (fun h => h.elim A.E1 A.E6), j.r.keep u (fun h => h.elim A.R1 A.R6), j.l.keep u (fun h => h.elim A.l1 A.l6) (by decide),
    fun y hy => by
      rcases List.mem_append.1 hy with hy | hy
      · exact (j.m y hy).keep u (by decide)
      · rw [List.mem_singleton.1 hy]; exact hm.keep u (by decide),
    j.x.keep u (fun h => h.elim A.x1 A.x6), j.h.keep u (fun h => h.elim A.h1 A.h6) (by decide)⟩

theorem SJ.ds (j : SJ ρ w P X Y RY rX rh rY rR rl rcX mdY hvY 0 iv ms md hv HL lv L) : DS ρ w P Y RY P X rY rR rl mdY hvY 0 false iv 0 ms lv L := ⟨j.fr, j.p, j.q, j.y, j.r, j.l, j.m⟩

theorem SJ.drained {iv' lv' : Value} {L' : List Int} (j : SJ ρ w P X Y RY rX rh rY rR rl rcX mdY hvY 0 iv ms md hv HL lv L) (A : Apart rX rh rY rR rl) (u : Upd (Sd rR rl) ρ w ρ' w') (d : DS ρ' w' P Y RY P X rY rR rl mdY hvY 0 false iv' 0 [] lv' L') :
    SJ ρ' w' P X Y RY rX rh rY rR rl rcX mdY hvY 0 iv' [] md hv HL lv' L' :=
  ⟨d.fr, d.p, d.q, d.e, d.r, d.l, (fun _ h => by cases h), j.x.keep u (fun h => h.elim A.x1 (fun h => h.elim A.x6 (fun h => h.elim A.xR A.xl))), j.h.keep u (fun h => h.elim A.h1 (fun h => h.elim A.h6 (fun h => h.elim A.hR A.hl))) (fun h => h.elim (by decide) (fun h => h.elim (by decide) (fun h => h.elim (fun e => A.R9 e.symm) (fun e => A.l9 e.symm))))⟩

theorem drain_sj (j : SJ ρ w P X Y RY rX rh rY rR rl rcX mdY hvY 0 iv ms md hv HL lv L) (A : Apart rX rh rY rR rl) (hlen : L.length + ms.length ≤ 50000) :
    Calls Yba.prog 14 #[.pointer (some ⟨P, 2, none⟩), .func (.func 15) #[.pointer (some ⟨P, 0, none⟩)] #[]] w fun e w' => e = .returned (.tuple #[]) ∧
      ∃ ρ' iv' lv', SJ ρ' w' P X Y RY rX rh rY rR rl rcX mdY hvY 0 iv' [] md hv HL lv' (L ++ bytes ms) ∧ Upd (Sd rR rl) ρ w ρ' w' := by
  refine (drain_any ρ w P Y RY P X rY rR rl mdY hvY iv ms lv L j.ds hlen A.ne A.l9 A.R9 A.E1 A.R1 A.l1 A.E6 A.R6 A.l6 A.ER A.El A.E0 A.R0 A.l0).mono ?_
  rintro e w' ⟨rfl, ρ', iv', lv', d, u⟩
  exact ⟨rfl, ρ', iv', lv', j.drained A u d, u⟩

theorem SJ.held {o : Obj} {v' : Value} {b c : Nat} {x : Int} {xs : List Value} (j : SJ ρ w P X Y RY rX rh rY rR rl rcX mdY hvY m0 iv ms md hv HL lv L) (A : Apart rX rh rY rR rl) (hm : Msu ρ w b x) (ho : w.ownsRow 0 35 1 hv HL.length xs) (hk : ∀ k, hv.ownBlock = some k → ρ k = rh)
    (hx : ∀ i, i < HL.length → ∃ b c, xs[i]? = some (.slice (some ⟨b, 0, none⟩) 1 c) ∧ Msu ρ w b (HL.getD i 0)) (hxl : xs.length = HL.length)
    (hO : w'.ownsRow 0 35 1 v' (HL.length + 1) (xs ++ [.slice (some ⟨b, 0, none⟩) 1 c])) (hg : (w.alloc o).grownBy w' hv.ownBlock) (hbk : v'.ownBlock = hv.ownBlock ∨ v'.ownBlock = some (w.alloc o).heap.size) :
    (∃ ρ', SJ ρ' (w'.setCell ⟨X, 4, none⟩ v') P X Y RY rX rh rY rR rl rcX mdY hvY m0 iv ms md v' (HL ++ [x]) lv L ∧ Upd (fun r => r = rX ∨ r = rh) ρ w ρ' (w'.setCell ⟨X, 4, none⟩ v')) ∧
      w'.cell? ⟨X, 4, none⟩ = some hv ∧ w'.frozen? ⟨X, 4, none⟩ = false := by
  have ua : Upd (fun _ => False) ρ w ρ (w.alloc o) := (Upd.refl j.fr).alloc o
  have ja := j.kept ua
  obtain ⟨ρ', hvl, u⟩ := VL.appended (L := HL) (L2 := [x]) (r := rh) ua.fresh A.h9 hk (fun i hi => by
    obtain ⟨b, c, e1, e2⟩ := hx i hi
    exact ⟨b, c, e1, e2.keep ua (fun h => h)⟩) (fun i hi => by
    have : i = 0 := by simp at hi; omega
    subst this
    exact ⟨b, c, rfl, by simpa using hm.keep ua (fun h => h)⟩) hxl hO hg hbk
  have hne : some X ≠ hv.ownBlock := fun e => by
    have h1 := hk X e.symm
    rw [j.x.1] at h1
    exact A.xh h1
  have hb := hg.block X ja.x.2.lt hne
  have hX' := ja.x.keep u (by simpa using A.xh)
  have u2 : Upd (fun r => r = rX) ρ' w' ρ' (w'.setCell ⟨X, 4, none⟩ v') := (Upd.refl u.fresh).set v' (Or.inr hX'.1)
  have uu : Upd (fun r => r = rX ∨ r = rh) ρ w ρ' (w'.setCell ⟨X, 4, none⟩ v') := (ua.mono (fun _ h => h.elim)).trans ((u.mono (fun r h => Or.inr h)).trans (u2.mono (fun r h => Or.inl h)))
  refine ⟨⟨ρ', ⟨uu.fresh, j.p.keep uu (fun h => h.elim (fun e => A.x1 e.symm) (fun e => A.h1 e.symm)), j.q.keep uu (fun h => h.elim (fun e => A.x6 e.symm) (fun e => A.h6 e.symm)), j.y.keep uu (fun h => h.elim (fun e => A.xY e.symm) (fun e => A.hY e.symm)),
    j.r.keep uu (fun h => h.elim (fun e => A.xR e.symm) (fun e => A.hR e.symm)), j.l.keep uu (fun h => h.elim (fun e => A.xl e.symm) (fun e => A.hl e.symm)) (fun h => h.elim (fun e => A.x9 e.symm) (fun e => A.h9 e.symm)),
    fun y hy => (j.m y hy).keep uu (fun h => h.elim (fun e => A.x9 e.symm) (fun e => A.h9 e.symm)), hX'.set4 v', hvl.keep u2 (by simpa using fun e => A.xh e.symm) (by simpa using fun e => A.x9 e.symm)⟩, uu⟩,
    (World.cell?_of_block hb).trans (ja.x.2.cell (by omega)), (World.frozen?_of_block hb).trans (ja.x.2.frozen 4)⟩
end

def outL (md : ByteArray) (x : Int) : List Int := if md = dS then [x] else []
def heldL (md : ByteArray) (x : Int) : List Int := if md = hS then [x] else []

theorem cells_one_msu {ρ : Nat → Nat} {w : World} {b c : Nat} {x : Int} (h : Msu ρ w b x) : ∀ i, i < [x].length → ∃ b' c', [Value.slice (some ⟨b, 0, none⟩) 1 c][i]? = some (.slice (some ⟨b', 0, none⟩) 1 c') ∧ Msu ρ w b' ([x].getD i 0) := by
  intro i hi
  have : i = 0 := by simp at hi; omega
  subst this
  exact ⟨b, c, rfl, by simpa using h⟩

set_option maxHeartbeats 4000000 in
theorem send_any (ρ : Nat → Nat) (w : World) (P X Y RY rX rh rY rR rl b c : Nat) (x : Int) (rcX mdY hvY : Value) (iv : Value) (md : ByteArray) (hv : Value) (HL : List Int) (lv : Value) (L : List Int) (A : Apart rX rh rY rR rl)
    (hJ : SJ ρ w P X Y RY rX rh rY rR rl rcX mdY hvY 0 iv [] (.string md) hv HL lv L) (hm : Msu ρ w b x) (hlen : L.length ≤ 40000) (hlen2 : HL.length ≤ 40000) (hmd : md = dS ∨ md = hS ∨ md = pS) :
    Calls Yba.prog 9 #[.pointer (some ⟨X, 0, none⟩), .slice (some ⟨b, 0, none⟩) 1 c] w fun e w' => e = .returned (.tuple #[]) ∧
      ∃ ρ' iv' hv' lv', SJ ρ' w' P X Y RY rX rh rY rR rl rcX mdY hvY 0 iv' [] (.string md) hv' (HL ++ heldL md x) lv' (L ++ outL md x) ∧ Upd (Ss rX rh rR rl) ρ w ρ' w' := by
  have HJ : Hid (SJ ρ w P X Y RY rX rh rY rR rl rcX mdY hvY 0 iv [] (.string md) hv HL lv L) := hJ
  have HM : Hid (Msu ρ w b x) := hm
  clear hJ hm
  obtain ⟨i0, hi, hz0, hz1, hz2⟩ := info_parts info35
  have hmf : ∀ (fn : Fn) (first cap : Array Value) (w : World), (Instr.makeFunc fn first cap).run Yba.prog w = .ok (.func fn first cap) w := fun _ _ _ _ => rfl
  have c0 : w.cell? ⟨X, 0, none⟩ = some (.pointer (some ⟨P, 0, none⟩)) := HJ.out.x.2.cell (by omega)
  go_enter Yba.func9, Yba.ntmps9
  go_upto_region 1 with (go_at_call 11; refine (lock0 HJ.out.fr HJ.out.p).mono ?_; rintro e w2 ⟨rfl, p2, u2⟩)
  have J2 : Hid (SJ ρ w2 P X Y RY rX rh rY rR rl rcX mdY hvY 1 iv [] (.string md) hv HL lv L) := HJ.out.lock A u2 p2
  have U2 : Hid (Upd (fun r => r = 1) ρ w ρ w2) := u2
  have M2 : Hid (Msu ρ w2 b x) := HM.out.keep u2 (by decide)
  clear c0 p2 u2 HJ HM
  have c0 : w2.cell? ⟨X, 0, none⟩ = some (.pointer (some ⟨P, 0, none⟩)) := J2.out.x.2.cell (by omega)
  have c1 : w2.cell? ⟨X, 1, none⟩ = some (.pointer (some ⟨Y, 0, none⟩)) := J2.out.x.2.cell (by omega)
  have c3 : w2.cell? ⟨X, 3, none⟩ = some (.string md) := J2.out.x.2.cell (by omega)
  go_upto_block 0 with fail
  go_cut [] (fun wx => Hid (∃ ρ' iv' hv' ms', SJ ρ' wx P X Y RY rX rh rY rR rl rcX mdY hvY 1 iv' ms' (.string md) hv' (HL ++ heldL md x) lv L ∧ bytes ms' = outL md x ∧ ms'.length ≤ 1 ∧ Upd (Ss rX rh rR rl) ρ w ρ' wx))
  case first =>
    rcases hmd with rfl | rfl | rfl
    · -- deliver
      have e1 : dS = ⟨#[100, 101, 108, 105, 118, 101, 114]⟩ := rfl
      rw [e1]
      go_upto_region 3 with fail
      have JD : Hid (SJ ρ w2.drew P X Y RY rX rh rY rR rl rcX mdY hvY 1 iv [] (.string dS) hv HL lv L) := J2.out.kept (Upd.refl J2.out.fr).drew
      have UD : Hid (Upd (fun r => r = 1) ρ w ρ w2.drew) := U2.out.drew
      have MD : Hid (Msu ρ w2.drew b x) := M2.out.keep (Upd.refl (S := fun _ => False) J2.out.fr).drew (fun h => h)
      go_region_with (go_at_call 13; refine (add_any ρ w2.drew P Y b c 1 iv 0 false [] JD.out.fr JD.out.p JD.out.q (by simp)).mono ?_; rintro e w3 ⟨rfl, hadd⟩)
      all_goals obtain ⟨ρ3, iv3, p3, q3, u3⟩ := hadd
      all_goals go_wp2
      all_goals go_meet
      all_goals refine ⟨ρ3, iv3, hv, [(b, c, x)], ?_, (by simp [bytes, outL]), Nat.le_refl _, (UD.out.mono (fun r h => Or.inl h)).trans (u3.mono (fun r h => h.elim Or.inl (fun h => Or.inr (Or.inl h))))⟩
      all_goals rw [show heldL dS x = [] from if_neg (by decide), List.append_nil]
      all_goals exact JD.out.added A MD.out u3 p3 q3
    · -- hold
      obtain ⟨xs, ho, hxl, hk, hx⟩ := vl_owns J2.out.h
      have HX : Hid (w2.ownsRow 0 35 1 hv HL.length xs ∧ xs.length = HL.length ∧ (∀ k, hv.ownBlock = some k → ρ k = rh) ∧ ∀ i, i < HL.length → ∃ b c, xs[i]? = some (.slice (some ⟨b, 0, none⟩) 1 c) ∧ Msu ρ w2 b (HL.getD i 0)) := ⟨ho, hxl, hk, hx⟩
      clear ho hxl hk hx
      have c4 : w2.cell? ⟨X, 4, none⟩ = some hv := J2.out.x.2.cell (by omega)
      have e1 : hS = ⟨#[104, 111, 108, 100]⟩ := rfl
      rw [e1]
      go_wp2_with (at_builtin; refine wpList_append_own_at _ rfl (.tmp 36) (.tmp 38) 27 rfl 0 35 i0 (.slice none 0 0) 1 24 Yba.underlying27 hi hz0 hz1 hz2 rfl (by decide) hv HL.length xs rfl (World.ownsRow.alloc HX.out.1 _) _ 1 1 [.slice (some ⟨b, 0, none⟩) 1 c] rfl rfl (cell_one_new _ _ _) (one1 _ rfl) (by unfold maxLen; omega) (by omega) (Nat.zero_le _) ?_; intro v' w' hO hg hn hbk; obtain ⟨gq, cq, rfl⟩ := owns_shape hO (fun e => absurd (hn.1 e).2 (by decide)); have HE := J2.out.held A M2.out HX.out.1 HX.out.2.2.1 HX.out.2.2.2 HX.out.2.1 hO hg hbk; have c9 : w'.cell? ⟨X, 4, none⟩ = some hv := HE.2.1; have f9 : w'.frozen? ⟨X, 4, none⟩ = false := HE.2.2; have HE1 : Hid _ := HE.1; clear HE hO hg hn hbk)
      go_meet
      obtain ⟨ρ3, j3, u3⟩ := HE1.out
      refine ⟨ρ3, iv, .slice (some ⟨gq, 0, none⟩) (HL.length + 1) cq, [], ?_, (by rw [show outL hS x = [] from if_neg (by decide)]; rfl), Nat.zero_le _, (U2.out.mono (fun r h => Or.inl h)).trans (u3.mono (fun r h => Or.inr (Or.inr (Or.inr (Or.inr h)))))⟩
      rw [show heldL hS x = [x] from if_pos rfl]
      exact j3
    · -- drop
      have e1 : pS = ⟨#[100, 114, 111, 112]⟩ := rfl
      rw [e1]
      go_wp2
      go_meet
      refine ⟨ρ, iv, hv, [], ?_, (by rw [show outL pS x = [] from if_neg (by decide)]; rfl), Nat.zero_le _, U2.out.mono (fun r h => Or.inl h)⟩
      rw [show heldL pS x = [] from if_neg (by decide), List.append_nil]
      exact J2.out
  case rest =>
  obtain ⟨ρ3, iv3, hv3, ms3, j3, hb3, hl3, u3⟩ := hcut.out
  have J3 : Hid (SJ ρ3 wc P X Y RY rX rh rY rR rl rcX mdY hvY 1 iv3 ms3 (.string md) hv3 (HL ++ heldL md x) lv L) := j3
  have HB : Hid (bytes ms3 = outL md x) := hb3
  have U3 : Hid (Upd (Ss rX rh rR rl) ρ w ρ3 wc) := u3
  clear j3 hb3 u3 hcut c0 c1 c3 J2 U2 M2
  have c0 : wc.cell? ⟨X, 0, none⟩ = some (.pointer (some ⟨P, 0, none⟩)) := J3.out.x.2.cell (by omega)
  go_upto_region 7 with (go_at_call 12; refine (unlock0 J3.out.fr J3.out.p).mono ?_; rintro e w4 ⟨rfl, p4, u4⟩)
  have J4 : Hid (SJ ρ3 w4.drew P X Y RY rX rh rY rR rl rcX mdY hvY 0 iv3 ms3 (.string md) hv3 (HL ++ heldL md x) lv L) := (J3.out.lock A u4 p4).kept (Upd.refl u4.fresh).drew
  have U4 : Hid (Upd (Ss rX rh rR rl) ρ w ρ3 w4.drew) := (U3.out.trans (u4.mono (fun r h => Or.inl h))).drew
  have d0 : w4.cell? ⟨X, 0, none⟩ = some (.pointer (some ⟨P, 0, none⟩)) := (J3.out.lock A u4 p4).x.2.cell (by omega)
  clear p4 u4 J3 U3 c0
  go_region_with (go_at_call 14; refine (drain_sj J4.out A (by omega)).mono ?_; rintro e w5 ⟨rfl, hdr⟩)
  all_goals obtain ⟨ρ5, iv5, lv5, j5, u5⟩ := hdr
  all_goals rw [HB.out] at j5
  all_goals go_end0
  all_goals exact ⟨rfl, ρ5, iv5, hv3, lv5, j5, U4.out.trans (u5.mono (fun r h => h.elim Or.inl (fun h => Or.inr (h.elim Or.inl (fun h => Or.inr (h.elim Or.inl (fun h => Or.inr (Or.inl h))))))))⟩
end Go.Proofs.Ybulkceww.Pipe
