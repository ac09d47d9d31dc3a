/-
  LawS4059BModel: the plain round; the contract of endRound.
-/
import Derived.Test.YbulkcfaqRelease
namespace Go.Proofs.Ybulkcfaq.Sets
open Go.RowKit
set_option linter.unusedVariables false
set_option maxRecDepth 100000

/-- What a round turns: complete, refs, free. -/
structure St where
  c : Int
  R : Nat → Int
  L : List Int

def stepM (H X D S : Nat → Int) (v : Nat) (t : St) : St :=
  if H v = X v then t
  else ⟨if S (X v).toNat = D v then wrap64 (t.c + 1) else t.c, upd t.R (H v).toNat (wrap32 (t.R (H v).toNat - 1)), relL t.R (H v).toNat t.L⟩

def runM (H X D S : Nat → Int) : Nat → St → St
  | 0, t => t
  | v + 1, t => stepM H X D S v (runM H X D S v t)

theorem relL_len (R : Nat → Int) (s : Nat) (L : List Int) : (relL R s L).length ≤ L.length + 1 := by
  unfold relL; split <;> simp

theorem runM_len (H X D S : Nat → Int) (t : St) : ∀ v, (runM H X D S v t).L.length ≤ t.L.length + v
  | 0 => Nat.le_refl _
  | v + 1 => by
    have h := runM_len H X D S t v
    show (stepM H X D S v (runM H X D S v t)).L.length ≤ _
    unfold stepM
    split
    · omega
    · have := relL_len (runM H X D S v t).R (H v).toNat (runM H X D S v t).L
      show (relL _ _ _).length ≤ _
      omega

/-- held behind v nodes. -/
def heldAt (H X : Nat → Int) (v : Nat) : Nat → Int := fun i => if i < v then X i else H i

theorem MSet.setHeld {B : Nat} {F : Nat → Prop} {O : Nat → Option Obj} {w : World} {M bh bn bd bs br n k : Nat} {H X D S R : Nat → Int} {c : Int} {fv : Value} {L : List Int} (m : MSet B F O w M bh bn bd bs br n k H X D S R c fv L) (s : Nat) (v : Int) :
    MSet B F O (w.setCell ⟨bh, s, none⟩ (.int .i32 v)) M bh bn bd bs br n k (upd H s v) X D S R c fv L :=
  { m with
    m := m.m.setOther m.hM.1 _
    h := (m.h.set s _).congr (fun i _ => by unfold nums upd; split <;> rfl)
    x := m.x.setOther (Ne.symm m.hh.1) _
    d := m.d.setOther (Ne.symm m.hh.2.1) _
    s := m.s.setOther (Ne.symm m.hh.2.2.1) _
    r := m.r.setOther (Ne.symm m.hh.2.2.2) _
    kp := fun b hb => by
      obtain ⟨h1, h2, h3, h4, h5, h6⟩ := m.kp b hb
      exact ⟨by simpa using h1, by rw [Below.heap_setCell _ _ _ _ (fun e => h4 e)]; exact h2, h3, h4, h5, h6⟩
    f := by
      have := m.f
      refine ⟨this.1, ?_⟩
      rcases this.2 with h | ⟨g, cap, cur, hv, hb, hg, rest⟩
      · exact Or.inl h
      · refine Or.inr ⟨g, cap, cur, hv, hb, ?_, rest⟩
        rw [Below.heap_setCell _ _ _ _ (fun e => m.fh (by rw [hv]; simp [Value.ownBlock]; exact e))]
        exact hg }

theorem mcells_c (bh bn bd bs br n k : Nat) (c c' : Int) (fv : Value) : ∀ i, i < 10 → (if i = 3 then .int .i64 c' else mcells bh bn bd bs br n k c fv i) = mcells bh bn bd bs br n k c' fv i := by
  intro i hi
  match i, hi with
  | 0, _ | 1, _ | 2, _ | 3, _ | 4, _ | 5, _ | 6, _ | 7, _ | 8, _ | 9, _ => rfl

theorem MSet.setC {B : Nat} {F : Nat → Prop} {O : Nat → Option Obj} {w : World} {M bh bn bd bs br n k : Nat} {H X D S R : Nat → Int} {c : Int} {fv : Value} {L : List Int} (m : MSet B F O w M bh bn bd bs br n k H X D S R c fv L) (c' : Int) :
    MSet B F O (w.setCell ⟨M, 3, none⟩ (.int .i64 c')) M bh bn bd bs br n k H X D S R c' fv L :=
  { m with
    m := (m.m.set 3 _).congr (mcells_c bh bn bd bs br n k c c' fv)
    h := m.h.setOther (Ne.symm m.hM.1) _
    x := m.x.setOther (Ne.symm m.hM.2.1) _
    d := m.d.setOther (Ne.symm m.hM.2.2.1) _
    s := m.s.setOther (Ne.symm m.hM.2.2.2.1) _
    r := m.r.setOther (Ne.symm m.hM.2.2.2.2) _
    kp := fun b hb => by
      obtain ⟨h1, h2, h3, h4, h5, h6⟩ := m.kp b hb
      exact ⟨by simpa using h1, by rw [Below.heap_setCell _ _ _ _ (fun e => h3 e)]; exact h2, h3, h4, h5, h6⟩
    f := by
      have := m.f
      refine ⟨this.1, ?_⟩
      rcases this.2 with h | ⟨g, cap, cur, hv, hb, hg, rest⟩
      · exact Or.inl h
      · refine Or.inr ⟨g, cap, cur, hv, hb, ?_, rest⟩
        rw [Below.heap_setCell _ _ _ _ (fun e => m.fM (by rw [hv]; simp [Value.ownBlock]; exact e))]
        exact hg }

theorem MSet.heldEq {B : Nat} {F : Nat → Prop} {O : Nat → Option Obj} {w : World} {M bh bn bd bs br n k : Nat} {H H' X D S R : Nat → Int} {c : Int} {fv : Value} {L : List Int} (m : MSet B F O w M bh bn bd bs br n k H X D S R c fv L) (h : ∀ i, i < n → H i = H' i) :
    MSet B F O w M bh bn bd bs br n k H' X D S R c fv L :=
  { m with h := m.h.congr (fun i hi => by unfold nums; rw [h i hi]) }

theorem MSet.sameHeap {B : Nat} {F : Nat → Prop} {O : Nat → Option Obj} {w w' : World} {M bh bn bd bs br n k : Nat} {H X D S R : Nat → Int} {c : Int} {fv : Value} {L : List Int} (m : MSet B F O w M bh bn bd bs br n k H X D S R c fv L) (e : w'.heap = w.heap) :
    MSet B F O w' M bh bn bd bs br n k H X D S R c fv L :=
  { m with m := m.m.of_block (by rw [e]), h := m.h.of_block (by rw [e]), x := m.x.of_block (by rw [e]), d := m.d.of_block (by rw [e]), s := m.s.of_block (by rw [e]), r := m.r.of_block (by rw [e]), f := ⟨m.f.1, by rw [e]; exact m.f.2⟩, kp := fun b hb => by rw [e]; exact m.kp b hb }

theorem MSet.drew {B : Nat} {F : Nat → Prop} {O : Nat → Option Obj} {w : World} {M bh bn bd bs br n k : Nat} {H X D S R : Nat → Int} {c : Int} {fv : Value} {L : List Int} (m : MSet B F O w M bh bn bd bs br n k H X D S R c fv L) (j : Nat) :
    MSet B F O (w.drewN j) M bh bn bd bs br n k H X D S R c fv L :=
  m.sameHeap (World.heap_drewN (w := w) (n := j))

/-- Behind v nodes of the round. -/
def ER (B : Nat) (F : Nat → Prop) (O : Nat → Option Obj) (w wr : World) (M bh bn bd bs br n k : Nat) (H X D S : Nat → Int) (t : St) (v : Nat) : Prop :=
  ∃ fv, MSet B F O wr M bh bn bd bs br n k (heldAt H X v) X D S (runM H X D S v t).R (runM H X D S v t).c fv (runM H X D S v t).L ∧ Below B w wr

set_option maxHeartbeats 1000000 in
theorem endRound_any (B : Nat) (F : Nat → Prop) (O : Nat → Option Obj) (w : World) (M bh bn bd bs br n k : Nat) (H X D S : Nat → Int) (t : St) (fv : Value) (m : MSet B F O w M bh bn bd bs br n k H X D S t.R t.c fv t.L)
    (hH : ∀ i, i < n → 0 ≤ H i ∧ H i < k) (hX : ∀ i, i < n → 0 ≤ X i ∧ X i < k) (hn : n ≤ 1024) (hk : k ≤ 1024) (hL : t.L.length ≤ 2000) (hB : B ≤ w.heap.size) :
    Calls Yba.prog 7 #[.pointer (some ⟨M, 0, none⟩)] w fun e w' => e = .returned (.tuple #[]) ∧ ER B F O w w' M bh bn bd bs br n k H X D S t n := by
  have HS : Hid (ER B F O w w M bh bn bd bs br n k H X D S t 0) := ⟨fv, m.heldEq (fun i _ => by simp [heldAt]), Below.refl _ _⟩
  have c1 : w.cell? ⟨M, 1, none⟩ = some (.slice (some ⟨bn, 0, none⟩) n n) := m.m.cell (by omega)
  clear m
  have HH : Hid (∀ i, i < n → 0 ≤ H i ∧ H i < k) := hH
  have HX : Hid (∀ i, i < n → 0 ≤ X i ∧ X i < k) := hX
  clear hH hX
  go_enter Yba.func7, Yba.ntmps7
  go_wp2
  clear c1
  go_loopg [10] n (fun gk i wr => ∃ v : Nat, v ≤ n ∧ gk = n - v ∧ i = .int .i64 v ∧ Hid (ER B F O w wr M bh bn bd bs br n k H X D S t v))
  case atStart => exact ⟨0, Nat.zero_le _, rfl, rfl, HS.out⟩
  case round =>
    obtain ⟨v, hv, rfl, rfl, HE⟩ := hrel
    by_cases hlt : v < n
    · obtain ⟨fv1, m1, b1⟩ := HE.out
      obtain ⟨tv, htv⟩ : ∃ tv, tv = runM H X D S v t := ⟨_, rfl⟩
      have hlen : tv.L.length ≤ 5000 := by have := runM_len H X D S t v; rw [htv]; omega
      rw [← htv] at m1
      have HM : Hid (MSet B F O wr M bh bn bd bs br n k (heldAt H X v) X D S tv.R tv.c fv1 tv.L) := m1
      have HB : Hid (Below B w wr) := b1
      have HT : Hid (tv = runM H X D S v t) := htv
      obtain ⟨s, hs⟩ : ∃ s : Nat, H v = s := ⟨(H v).toNat, by have := HH.out v hlt; omega⟩
      obtain ⟨x, hx⟩ : ∃ x : Nat, X v = x := ⟨(X v).toNat, by have := HX.out v hlt; omega⟩
      have hsk : s < k := by have := HH.out v hlt; omega
      have hxk : x < k := by have := HX.out v hlt; omega
      have HSv : Hid (H v = s) := hs
      have HXv : Hid (X v = x) := hx
      have cx : wr.cell? ⟨bn, v, none⟩ = some (.int .i32 x) := by have := m1.x.cell hlt; rwa [nums, hx] at this
      have ch : wr.cell? ⟨bh, v, none⟩ = some (.int .i32 s) := by have := m1.h.cell hlt; rwa [nums, heldAt, if_neg (Nat.lt_irrefl v), hs] at this
      have c0 : wr.cell? ⟨M, 0, none⟩ = some (.slice (some ⟨bh, 0, none⟩) n n) := m1.m.cell (by omega)
      have c2 : wr.cell? ⟨M, 2, none⟩ = some (.slice (some ⟨bd, 0, none⟩) n n) := m1.m.cell (by omega)
      have c6 : wr.cell? ⟨M, 6, none⟩ = some (.slice (some ⟨bs, 0, none⟩) k k) := m1.m.cell (by omega)
      have cs : wr.cell? ⟨bs, x, none⟩ = some (.int .i32 (S x)) := m1.s.cell hxk
      have cd : wr.cell? ⟨bd, v, none⟩ = some (.int .i32 (D v)) := m1.d.cell hlt
      have c3 : wr.cell? ⟨M, 3, none⟩ = some (.int .i64 tv.c) := m1.m.cell (by omega)
      have f3 : wr.frozen? ⟨M, 3, none⟩ = false := m1.m.frozen 3
      have hvn : (v : Int) < (n : Int) := by omega
      have hxk' : (x : Int) < (k : Int) := by omega
      clear m1 b1 htv hs hx HE
      by_cases hsx : s = x
      · have he : (s : Int) = (x : Int) := by rw [hsx]
        go_wp2
        go_roundg (n - (v + 1))
        case measure => omega
        case rel =>
          refine ⟨v + 1, by omega, rfl, by go_num, fv1, ?_, HB.out⟩
          have e1 : runM H X D S (v + 1) t = tv := by
            show stepM H X D S v (runM H X D S v t) = tv
            rw [← HT.out, stepM, if_pos (by rw [HSv.out, HXv.out, he])]
          rw [e1]
          refine HM.out.heldEq (fun i hi => ?_)
          unfold heldAt
          by_cases h1 : i < v
          · rw [if_pos h1, if_pos (by omega)]
          · rw [if_neg h1]
            by_cases h2 : i = v
            · subst h2; rw [if_pos (by omega), HSv.out, HXv.out, he]
            · rw [if_neg (by omega)]
      · have he : ¬ (s : Int) = (x : Int) := by omega
        go_wp2
        go_quiet (fail)
        go_upto_if 39 with fail
        go_cut [] (fun wx => Hid (MSet B F O wx M bh bn bd bs br n k (heldAt H X v) X D S tv.R (if S x = D v then wrap64 (tv.c + 1) else tv.c) fv1 tv.L ∧ Below B w wx))
        case first => as_aux_lemma =>
          by_cases hc : S x = D v
          · have hcb : (S x == D v) = true := by simp [hc]
            have HC : Hid (S x = D v) := hc
            clear hc
            go_wp2
            go_meet
            show _ ∧ _
            rw [if_pos HC.out]
            exact ⟨(HM.out.drew _).setC _, (below_drewN HB.out _).setCell HM.out.ge.1 _⟩
          · have hcb : (S x == D v) = false := by simp [hc]
            have HC : Hid (¬ S x = D v) := hc
            clear hc
            go_wp2
            go_meet
            show _ ∧ _
            rw [if_neg HC.out]
            exact ⟨HM.out.drew _, below_drewN HB.out _⟩
        case rest =>
        obtain ⟨cv, hcv⟩ : ∃ cv, cv = (if S x = D v then wrap64 (tv.c + 1) else tv.c) := ⟨_, rfl⟩
        have HCV : Hid (cv = (if S x = D v then wrap64 (tv.c + 1) else tv.c)) := hcv
        rw [← hcv] at hcut
        have HK := hcut
        clear hcut hcv cx ch c0 c2 c6 cs cd c3 f3 HM HB
        have hBc : B ≤ wc.heap.size := Nat.le_trans hB HK.out.2.size
        go_upto_region 8 with (go_at_call 9; refine (release_any B F O _ M bh bn bd bs br n k (heldAt H X v) X D S tv.R cv fv1 tv.L HK.out.1 s hsk hk hlen hBc).mono ?_; rintro e w2 ⟨rfl, fv2, hm2, hb2⟩)
        have HM : Hid (MSet B F O w2 M bh bn bd bs br n k (heldAt H X v) X D S (upd tv.R s (wrap32 (tv.R s - 1))) cv fv2 (relL tv.R s tv.L)) := hm2
        have HB : Hid (Below B w w2) := HK.out.2.trans hb2
        clear hm2 hb2 HK
        have c0 : w2.cell? ⟨M, 0, none⟩ = some (.slice (some ⟨bh, 0, none⟩) n n) := HM.out.m.cell (by omega)
        have ch : w2.cell? ⟨bh, v, none⟩ = some (nums (heldAt H X v) v) := HM.out.h.cell hlt
        have fh : w2.frozen? ⟨bh, v, none⟩ = false := HM.out.h.frozen v
        go_wp2
        go_roundg (n - (v + 1))
        case measure => omega
        case rel =>
          refine ⟨v + 1, by omega, rfl, by go_num, fv2, ?_, HB.out.setCell HM.out.ge.2.1 _⟩
          have e1 : runM H X D S (v + 1) t = ⟨cv, upd tv.R s (wrap32 (tv.R s - 1)), relL tv.R s tv.L⟩ := by
            show stepM H X D S v (runM H X D S v t) = _
            rw [← HT.out, stepM, if_neg (by rw [HSv.out, HXv.out]; exact he), HSv.out, HXv.out, HCV.out]
            rfl
          rw [e1]
          refine (HM.out.setHeld v x).heldEq (fun i hi => ?_)
          unfold heldAt upd
          by_cases h1 : i = v
          · subst h1; rw [if_pos rfl, if_pos (by omega), HXv.out]
          · rw [if_neg h1]
            show (if i < v then X i else H i) = _
            by_cases h2 : i < v
            · rw [if_pos h2, if_pos (by omega)]
            · rw [if_neg h2, if_neg (by omega)]
    · go_wp2
      go_end0
      have : v = n := by omega
      subst this
      exact ⟨rfl, HE.out⟩
end Go.Proofs.Ybulkcfaq.Sets
