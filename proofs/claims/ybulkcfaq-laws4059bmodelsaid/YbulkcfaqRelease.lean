/-
  LawS4059BModel: the sets in memory; the contract of release.
-/
import Derived.Test.YbulkcfaqSets
import Derived.Maps.AppendAt
namespace Go.Proofs.Ybulkcfaq.Sets
open Go.RowKit
set_option linter.unusedVariables false
set_option maxRecDepth 100000

/-- The ten cells of a messageSets. -/
def mcells (bh bn bd bs br n k : Nat) (c : Int) (fv : Value) : Nat → Value
  | 0 => .slice (some ⟨bh, 0, none⟩) n n
  | 1 => .slice (some ⟨bn, 0, none⟩) n n
  | 2 => .slice (some ⟨bd, 0, none⟩) n n
  | 3 => .int .i64 c
  | 4 => .int .i64 0
  | 6 => .slice (some ⟨bs, 0, none⟩) k k
  | 7 => .slice (some ⟨br, 0, none⟩) k k
  | 8 => fv
  | _ => .slice none 0 0

def nums (z : Nat → Int) : Nat → Value := fun i => .int .i32 (z i)

/-- WHERE THE SETS LIE: the struct in block M; its five rows in five blocks of their own; the free list in a block of its own. -/
structure MSet (B : Nat) (F : Nat → Prop) (O : Nat → Option Obj) (w : World) (M bh bn bd bs br n k : Nat) (H X D S R : Nat → Int) (c : Int) (fv : Value) (L : List Int) : Prop where
  m : w.rowIs M 32 10 (mcells bh bn bd bs br n k c fv)
  h : w.rowIs bh 21 n (nums H)
  x : w.rowIs bn 21 n (nums X)
  d : w.rowIs bd 21 n (nums D)
  s : w.rowIs bs 21 k (nums S)
  r : w.rowIs br 21 k (nums R)
  f : Own w B fv L
  nn : ¬ fv = .slice none 0 0
  fM : fv.ownBlock ≠ some M
  fh : fv.ownBlock ≠ some bh
  fx : fv.ownBlock ≠ some bn
  fd : fv.ownBlock ≠ some bd
  fs : fv.ownBlock ≠ some bs
  fr : fv.ownBlock ≠ some br
  hM : M ≠ bh ∧ M ≠ bn ∧ M ≠ bd ∧ M ≠ bs ∧ M ≠ br
  hh : bh ≠ bn ∧ bh ≠ bd ∧ bh ≠ bs ∧ bh ≠ br
  hr : br ≠ bn ∧ br ≠ bd ∧ br ≠ bs
  ge : B ≤ M ∧ B ≤ bh ∧ B ≤ br
  kp : ∀ b, F b → b < w.heap.size ∧ w.heap[b]? = O b ∧ b ≠ M ∧ b ≠ bh ∧ b ≠ br ∧ fv.ownBlock ≠ some b

def upd (R : Nat → Int) (s : Nat) (v : Int) : Nat → Int := fun i => if i = s then v else R i

theorem mcells_free (bh bn bd bs br n k : Nat) (c : Int) (fv fv' : Value) : ∀ i, i < 10 → (if i = 8 then fv' else mcells bh bn bd bs br n k c fv i) = mcells bh bn bd bs br n k c fv' i := by
  intro i hi
  match i, hi with
  | 0, _ | 1, _ | 2, _ | 3, _ | 4, _ | 5, _ | 6, _ | 7, _ | 8, _ | 9, _ => rfl

/-- A store of one number into the refs. -/
theorem MSet.setRef {B : Nat} {F : Nat → Prop} {O : Nat → Option Obj} {w : World} {M bh bn bd bs br n k : Nat} {H X D S R : Nat → Int} {c : Int} {fv : Value} {L : List Int} (m : MSet B F O w M bh bn bd bs br n k H X D S R c fv L) (s : Nat) (v : Int) :
    MSet B F O (w.setCell ⟨br, s, none⟩ (.int .i32 v)) M bh bn bd bs br n k H X D S (upd R s v) c fv L :=
  { m with
    m := m.m.setOther m.hM.2.2.2.2 _
    h := m.h.setOther m.hh.2.2.2 _
    x := m.x.setOther (Ne.symm m.hr.1) _
    d := m.d.setOther (Ne.symm m.hr.2.1) _
    s := m.s.setOther (Ne.symm m.hr.2.2) _
    r := (m.r.set s _).congr (fun i _ => by unfold nums upd; split <;> rfl)
    kp := fun b hb => by
      obtain ⟨h1, h2, h3, h4, h5, h6⟩ := m.kp b hb
      exact ⟨by simpa using h1, by rw [Below.heap_setCell _ _ _ _ (fun e => h5 e)]; exact h2, h3, h4, h5, h6⟩
    f := by
      have := m.f
      refine ⟨this.1, ?_⟩
      rcases this.2 with h | ⟨g, cap, cur, hv, hb, hg, rest⟩
      · exact Or.inl h
      · refine Or.inr ⟨g, cap, cur, hv, hb, ?_, rest⟩
        rw [Below.heap_setCell _ _ _ _ (fun e => m.fr (by rw [hv]; simp [Value.ownBlock]; exact e))]
        exact hg }

theorem MSet.alloc {B : Nat} {F : Nat → Prop} {O : Nat → Option Obj} {w : World} {M bh bn bd bs br n k : Nat} {H X D S R : Nat → Int} {c : Int} {fv : Value} {L : List Int} (m : MSet B F O w M bh bn bd bs br n k H X D S R c fv L) (o : Obj) :
    MSet B F O (w.alloc o) M bh bn bd bs br n k H X D S R c fv L :=
  { m with m := m.m.alloc o, h := m.h.alloc o, x := m.x.alloc o, d := m.d.alloc o, s := m.s.alloc o, r := m.r.alloc o, f := World.ownsRow.alloc m.f o, kp := fun b hb => ⟨by have := (m.kp b hb).1; simp; omega, (((Below.refl w.heap.size w).alloc (Nat.le_refl _) o).block b (m.kp b hb).1).trans (m.kp b hb).2.1, (m.kp b hb).2.2⟩ }

theorem MSet.lts {B : Nat} {F : Nat → Prop} {O : Nat → Option Obj} {w : World} {M bh bn bd bs br n k : Nat} {H X D S R : Nat → Int} {c : Int} {fv : Value} {L : List Int} (m : MSet B F O w M bh bn bd bs br n k H X D S R c fv L) :
    M < w.heap.size ∧ bh < w.heap.size ∧ bn < w.heap.size ∧ bd < w.heap.size ∧ bs < w.heap.size ∧ br < w.heap.size := ⟨m.m.lt, m.h.lt, m.x.lt, m.d.lt, m.s.lt, m.r.lt⟩

/-- Behind an append to the free list and the store of its header. -/
theorem MSet.appended {B : Nat} {F : Nat → Prop} {O : Nat → Option Obj} {w w' : World} {M bh bn bd bs br n k : Nat} {H X D S R : Nat → Int} {c : Int} {fv v' : Value} {L L' : List Int} (m : MSet B F O w M bh bn bd bs br n k H X D S R c fv L)
    (hO : Own w' B v' L') (hg : w.grownBy w' fv.ownBlock) (hn : ¬ v' = .slice none 0 0) (hb : v'.ownBlock = fv.ownBlock ∨ v'.ownBlock = some w.heap.size) :
    MSet B F O (w'.setCell ⟨M, 8, none⟩ v') M bh bn bd bs br n k H X D S R c v' L' := by
  obtain ⟨l1, l2, l3, l4, l5, l6⟩ := m.lts
  have ne : ∀ b, b < w.heap.size → fv.ownBlock ≠ some b → v'.ownBlock ≠ some b := by
    intro b hb1 hb2
    rcases hb with h | h
    · rw [h]; exact hb2
    · rw [h]; simp; omega
  have nM := ne M l1 m.fM
  have kb : ∀ b, b < w.heap.size → fv.ownBlock ≠ some b → w'.heap[b]? = w.heap[b]? := fun b h1 h2 => hg.block b h1 (Ne.symm h2)
  exact
    { m with
      m := ((m.m.of_block (kb M l1 m.fM)).set 8 v').congr (mcells_free bh bn bd bs br n k c fv v')
      h := (m.h.of_block (kb bh l2 m.fh)).setOther (Ne.symm m.hM.1) _
      x := (m.x.of_block (kb bn l3 m.fx)).setOther (Ne.symm m.hM.2.1) _
      d := (m.d.of_block (kb bd l4 m.fd)).setOther (Ne.symm m.hM.2.2.1) _
      s := (m.s.of_block (kb bs l5 m.fs)).setOther (Ne.symm m.hM.2.2.2.1) _
      r := (m.r.of_block (kb br l6 m.fr)).setOther (Ne.symm m.hM.2.2.2.2) _
      f := by
        refine ⟨hO.1, ?_⟩
        rcases hO.2 with h | ⟨g, cap, cur, hv, hb', hg', rest⟩
        · exact Or.inl h
        · refine Or.inr ⟨g, cap, cur, hv, hb', ?_, rest⟩
          rw [Below.heap_setCell _ _ _ _ (fun e => nM (by rw [hv]; simp [Value.ownBlock]; exact e))]
          exact hg'
      nn := hn
      kp := fun b hb => by
        obtain ⟨h1, h2, h3, h4, h5, h6⟩ := m.kp b hb
        exact ⟨by have := hg.size; simp; omega, by rw [Below.heap_setCell _ _ _ _ (fun e => h3 e)]; exact (kb b h1 h6).trans h2, h3, h4, h5, ne b h1 h6⟩
      fM := nM
      fh := ne bh l2 m.fh
      fx := ne bn l3 m.fx
      fd := ne bd l4 m.fd
      fs := ne bs l5 m.fs
      fr := ne br l6 m.fr }

theorem own_shape {B N : Nat} {w : World} {v : Value} {xs : List Value} (h : w.ownsRow B 21 1 v N xs) (hn : ¬ v = .slice none 0 0) : ∃ g cap, v = .slice (some ⟨g, 0, none⟩) N cap := by
  rcases h.2 with ⟨h1, _⟩ | ⟨g, cap, cur, hv, _⟩
  · exact absurd h1 hn
  · exact ⟨g, cap, hv⟩

theorem own_ge {B : Nat} {w : World} {v : Value} {L : List Int} (h : Own w B v L) {b : Nat} (hb : v.ownBlock = some b) : B ≤ b := by
  rcases h.2 with ⟨h1, _⟩ | ⟨g, cap, cur, hv, h2, _⟩
  · rw [h1] at hb; simp [Value.ownBlock] at hb
  · rw [hv] at hb; simp [Value.ownBlock] at hb; omega

theorem kept8 {B : Nat} {F : Nat → Prop} {O : Nat → Option Obj} {w w' : World} {M bh bn bd bs br n k : Nat} {H X D S R : Nat → Int} {c : Int} {fv : Value} {L : List Int} (m : MSet B F O w M bh bn bd bs br n k H X D S R c fv L) (hg : w.grownBy w' fv.ownBlock) :
    w'.cell? ⟨M, 8, none⟩ = some fv :=
  (World.cell?_of_block (hg.block M m.lts.1 (Ne.symm m.fM))).trans (m.m.cell (by omega))

theorem keptf {B : Nat} {F : Nat → Prop} {O : Nat → Option Obj} {w w' : World} {M bh bn bd bs br n k : Nat} {H X D S R : Nat → Int} {c : Int} {fv : Value} {L : List Int} (m : MSet B F O w M bh bn bd bs br n k H X D S R c fv L) (hg : w.grownBy w' fv.ownBlock) :
    w'.frozen? ⟨M, 8, none⟩ = false :=
  (World.frozen?_of_block (hg.block M m.lts.1 (Ne.symm m.fM))).trans (m.m.frozen 8)

theorem released {B : Nat} {F : Nat → Prop} {O : Nat → Option Obj} {w0 w w' : World} {M bh bn bd bs br n k : Nat} {H X D S R : Nat → Int} {c : Int} {fv v' : Value} {L : List Int} {s : Int} (m : MSet B F O w M bh bn bd bs br n k H X D S R c fv L) (bel : Below B w0 w) (hB : B ≤ w.heap.size)
    (hO : w'.ownsRow B 21 1 v' (L.length + 1) (L.map (Value.int .i32) ++ [s].map (Value.int .i32))) (hg : w.grownBy w' fv.ownBlock) (hn : ¬ v' = .slice none 0 0) (hb : v'.ownBlock = fv.ownBlock ∨ v'.ownBlock = some w.heap.size) :
    MSet B F O (w'.setCell ⟨M, 8, none⟩ v') M bh bn bd bs br n k H X D S R c v' (L ++ [s]) ∧ Below B w0 (w'.setCell ⟨M, 8, none⟩ v') :=
  ⟨m.appended (by unfold Own; simpa using hO) hg hn hb, (bel.grown hg hB (fun b hb => own_ge m.f hb)).setCell m.ge.1 _⟩

def relL (R : Nat → Int) (s : Nat) (L : List Int) : List Int := if wrap32 (R s - 1) = 0 then L ++ [(s : Int)] else L

theorem one_new (w : World) (x : Int) : ∀ j u, ([x].map (Value.int .i32))[j]? = some u → (w.alloc (.cells #[.int .i32 x] 21)).cell? ((⟨w.heap.size, 0, none⟩ : Addr).add j) = some u := by
  intro j u hj
  match j, hj with
  | 0, hj => simp at hj; subst hj; simp [Addr.add]

set_option maxHeartbeats 1000000 in
theorem release_any (B : Nat) (F : Nat → Prop) (O : Nat → Option Obj) (w : World) (M bh bn bd bs br n k : Nat) (H X D S R : Nat → Int) (c : Int) (fv : Value) (L : List Int) (m : MSet B F O w M bh bn bd bs br n k H X D S R c fv L)
    (s : Nat) (hs : s < k) (hk : k ≤ 1024) (hL : L.length ≤ 5000) (hB : B ≤ w.heap.size) :
    Calls Yba.prog 9 #[.pointer (some ⟨M, 0, none⟩), .int .i32 s] w fun e w' => e = .returned (.tuple #[]) ∧ ∃ fv', MSet B F O w' M bh bn bd bs br n k H X D S (upd R s (wrap32 (R s - 1))) c fv' (relL R s L) ∧ Below B w w' := by
  have HM : Hid (MSet B F O w M bh bn bd bs br n k H X D S R c fv L) := m
  clear m
  obtain ⟨i0, hi, hz0, hz1, hz2⟩ := info_parts info21
  have c7 : w.cell? ⟨M, 7, none⟩ = some (.slice (some ⟨br, 0, none⟩) k k) := HM.out.m.cell (by omega)
  have cr : w.cell? ⟨br, s, none⟩ = some (.int .i32 (R s)) := HM.out.r.cell hs
  have fr : w.frozen? ⟨br, s, none⟩ = false := HM.out.r.frozen s
  have hsk : (s : Int) < (k : Int) := by omega
  go_enter Yba.func9, Yba.ntmps9
  go_upto_region 0 with fail
  go_cut [] (fun wx => Hid (MSet B F O wx M bh bn bd bs br n k H X D S (upd R s (wrap32 (R s - 1))) c fv L) ∧ Hid (Below B w wx))
  case first => as_aux_lemma =>
    go_wp2
    go_meet
    exact ⟨HM.out.setRef s _, (Below.refl _ _).setCell HM.out.ge.2.2 _⟩
  case rest =>
  obtain ⟨M1, HB⟩ := hcut
  clear c7 cr fr
  have c7 : wc.cell? ⟨M, 7, none⟩ = some (.slice (some ⟨br, 0, none⟩) k k) := M1.out.m.cell (by omega)
  have cr : wc.cell? ⟨br, s, none⟩ = some (.int .i32 (wrap32 (R s - 1))) := by
    have := M1.out.r.cell hs
    simpa [nums, upd] using this
  have c8 : wc.cell? ⟨M, 8, none⟩ = some fv := M1.out.m.cell (by omega)
  have hB1 : B ≤ wc.heap.size := Nat.le_trans hB HB.out.size
  by_cases h0 : wrap32 (R s - 1) = 0
  · have HR : Hid (relL R s L = L ++ [(s : Int)]) := by unfold relL; rw [if_pos h0]; rfl
    have hb0 : (wrap32 (R s - 1) == 0) = true := by simp [h0]
    clear h0
    have fM8 : wc.frozen? ⟨M, 8, none⟩ = false := M1.out.m.frozen 8
    have HA : Hid (MSet B F O (wc.alloc (.cells #[.int .i32 (s : Int)] 21)) M bh bn bd bs br n k H X D S (upd R s (wrap32 (R s - 1))) c fv L) := M1.out.alloc _
    have HBA : Hid (Below B w (wc.alloc (.cells #[.int .i32 (s : Int)] 21))) := HB.out.alloc (by omega) _
    go_wp2_with (at_builtin; refine wpList_append_own_at _ rfl (.tmp 25) (.tmp 27) 26 rfl B 21 i0 (.int .i32 0) 1 4 Yba.underlying26 hi hz0 hz1 hz2 rfl (by decide) fv L.length (L.map (Value.int .i32)) rfl (World.ownsRow.alloc M1.out.f _) _ 1 1 ([(s : Int)].map (Value.int .i32)) rfl rfl (one_new _ _) (ints_oneCell _ _) (by unfold maxLen; omega) (by omega) (by simp; omega) ?_; intro v' w' hO hg hn' hbk; have hnn : ¬ v' = .slice none 0 0 := (fun e => absurd (hn'.1 e).2 (by decide)); obtain ⟨g, cap, hv'⟩ := own_shape hO hnn; have F : Hid (MSet B F O (w'.setCell ⟨M, 8, none⟩ v') M bh bn bd bs br n k H X D S (upd R s (wrap32 (R s - 1))) c v' (L ++ [(s : Int)]) ∧ Below B w (w'.setCell ⟨M, 8, none⟩ v')) := released HA.out HBA.out (by simp; omega) hO hg hnn hbk; have c9 : w'.cell? ⟨M, 8, none⟩ = some fv := kept8 HA.out hg; have f9 : w'.frozen? ⟨M, 8, none⟩ = false := keptf HA.out hg; clear hO hg hn' hbk hnn; subst hv')
    go_end0
    have F1 := F.out.1
    rw [← HR.out] at F1
    exact ⟨rfl, _, F1, F.out.2⟩
  · have HR : Hid (relL R s L = L) := by unfold relL; rw [if_neg h0]; rfl
    go_wp2
    go_end0
    refine ⟨rfl, fv, ?_, HB.out⟩
    rw [HR.out]
    exact M1.out

end Go.Proofs.Ybulkcfaq.Sets
