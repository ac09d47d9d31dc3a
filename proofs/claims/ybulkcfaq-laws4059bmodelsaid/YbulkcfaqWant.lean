/-
  LawS4059BModel: the clones, and the state of the loop that works out what is wanted.
-/
import Derived.Test.YbulkcfaqBPre
namespace Go.Proofs.Ybulkcfaq.Sets
open Go.RowKit
set_option linter.unusedVariables false
set_option maxRecDepth 100000

/-- Block g begins with n numbers, none frozen. -/
def RowN (w : World) (g n : Nat) (z : Nat → Int) : Prop := ∃ cur : Array Value, w.heap[g]? = some (.cells cur 21 (0, 0)) ∧ ∀ i, i < n → cur[i]? = some (.int .i32 (z i))

theorem RowN.nums {w : World} {g n : Nat} {z : Nat → Int} (h : RowN w g n z) : Nums w g n z := by
  obtain ⟨cur, hg, hc⟩ := h
  intro i hi
  simp [World.cell?, hg, hc i hi]
theorem RowN.frozen {w : World} {g n : Nat} {z : Nat → Int} (h : RowN w g n z) (i : Nat) : w.frozen? ⟨g, i, none⟩ = false := by
  obtain ⟨cur, hg, hc⟩ := h
  simp [World.frozen?, hg]
theorem RowN.lt {w : World} {g n : Nat} {z : Nat → Int} (h : RowN w g n z) : g < w.heap.size := by
  obtain ⟨cur, hg, hc⟩ := h
  exact (Array.getElem?_eq_some_iff.1 hg).1
theorem RowN.of_block {w w' : World} {g n : Nat} {z : Nat → Int} (h : RowN w g n z) (e : w'.heap[g]? = w.heap[g]?) : RowN w' g n z := by
  obtain ⟨cur, hg, hc⟩ := h
  exact ⟨cur, e.trans hg, hc⟩
theorem RowN.below {w w' : World} {g n : Nat} {z : Nat → Int} (h : RowN w g n z) (hb : Below w.heap.size w w') : RowN w' g n z := h.of_block (hb.block g h.lt)
theorem RowN.set {w : World} {g n : Nat} {z : Nat → Int} (h : RowN w g n z) (s : Nat) (v : Int) : RowN (w.setCell ⟨g, s, none⟩ (.int .i32 v)) g n (upd z s v) := by
  obtain ⟨cur, hg, hc⟩ := h
  refine ⟨cur.setIfInBounds s (.int .i32 v), by simp [World.setCell, Array.getElem?_modify, hg], fun i hi => ?_⟩
  have h1 := hc i hi
  rw [Array.getElem?_setIfInBounds]
  unfold upd
  by_cases e : s = i
  · subst e
    have : s < cur.size := (Array.getElem?_eq_some_iff.1 h1).1
    simp [this]
  · rw [if_neg e, if_neg (fun h => e h.symm)]; exact h1

theorem RowN.of_row {w : World} {g n : Nat} {z : Nat → Int} (h : w.rowIs g 21 n (Sets.nums z)) : RowN w g n z := by
  obtain ⟨c, hb, _, hc⟩ := h
  exact ⟨c, hb, hc⟩

theorem own_row {w : World} {B : Nat} {v : Value} {L : List Int} (h : Own w B v L) (hn : ¬ v = .slice none 0 0) :
    ∃ g cap, v = .slice (some ⟨g, 0, none⟩) L.length cap ∧ B ≤ g ∧ RowN w g L.length (fun i => L.getD i 0) := by
  rcases h.2 with ⟨h1, _⟩ | ⟨g, cap, cur, hv, hB, hg, hc, hm, hs, ht⟩
  · exact absurd h1 hn
  · refine ⟨g, cap, hv, hB, cur, hg, fun i hi => ?_⟩
    have h2 : (cur.toList.take (L.length * 1))[i]? = (L.map (Value.int .i32))[i]? := by rw [ht]
    rw [List.getElem?_take_of_lt (by omega), List.getElem?_map] at h2
    simpa [List.getD, hi] using h2

def lst (n : Nat) (z : Nat → Int) : List Int := (List.range n).map z
theorem lst_len (n : Nat) (z : Nat → Int) : (lst n z).length = n := by simp [lst]
theorem lst_get (n : Nat) (z : Nat → Int) (i : Nat) (h : i < n) : (lst n z).getD i 0 = z i := by simp [lst, List.getD, h]

/-- Clone of a row, by its numbers. -/
theorem clone_row (g n c : Nat) (z : Nat → Int) (w : World) (hn : n ≤ 100000) (h : Nums w g n z) :
    Calls Yba.prog 6 #[.slice (some ⟨g, 0, none⟩) n c] w fun e w' => ∃ g' cap, e = .returned (.slice (some ⟨g', 0, none⟩) n cap) ∧ RowN w' g' n z ∧ w.heap.size ≤ g' ∧ Below w.heap.size w w' := by
  refine (clone_any g n c (lst n z) w hn (lst_len n z) (fun i hi => by simp only [lst_get n z i hi]; exact h i hi)).mono ?_
  rintro e w' ⟨v, rfl, hO, hnn, hb⟩
  obtain ⟨g', cap, rfl, hB, cur, hg, hc⟩ := own_row hO hnn
  rw [lst_len] at hc ⊢
  exact ⟨g', cap, rfl, ⟨cur, hg, fun i hi => by rw [hc i hi]; simp only [lst_get n z i hi]⟩, hB, hb⟩

theorem own_below {w w' : World} {B : Nat} {v : Value} {L : List Int} (h : Own w B v L) (hb : Below w.heap.size w w') : Own w' B v L := by
  refine ⟨h.1, ?_⟩
  rcases h.2 with h1 | ⟨g, cap, cur, hv, hB, hg, rest⟩
  · exact Or.inl h1
  · exact Or.inr ⟨g, cap, cur, hv, hB, (hb.block g (Array.getElem?_eq_some_iff.1 hg).1).trans hg, rest⟩

def F0 : Nat → Prop := fun _ => False
def O0 : Nat → Option Obj := fun _ => none

section
variable {B : Nat} {w w' : World} {M bh bn bd bs br n k : Nat} {H X D S R : Nat → Int} {c : Int} {fv : Value} {L : List Int}

theorem MSet.below {F : Nat → Prop} {O : Nat → Option Obj} (m : MSet B F O w M bh bn bd bs br n k H X D S R c fv L) (hb : Below w.heap.size w w') : MSet B F O w' M bh bn bd bs br n k H X D S R c fv L :=
  { m with
    m := m.m.of_block (hb.block _ m.m.lt), h := m.h.of_block (hb.block _ m.h.lt), x := m.x.of_block (hb.block _ m.x.lt), d := m.d.of_block (hb.block _ m.d.lt)
    s := m.s.of_block (hb.block _ m.s.lt), r := m.r.of_block (hb.block _ m.r.lt), f := own_below m.f hb
    kp := fun b hF => ⟨Nat.lt_of_lt_of_le (m.kp b hF).1 hb.size, (hb.block b (m.kp b hF).1).trans (m.kp b hF).2.1, (m.kp b hF).2.2⟩ }

theorem own_lt {w : World} {B : Nat} {v : Value} {L : List Int} (h : Own w B v L) {b : Nat} (hb : v.ownBlock = some b) : b < w.heap.size := by
  rcases h.2 with ⟨h1, _⟩ | ⟨g, cap, cur, hv, hB, hg, rest⟩
  · rw [h1] at hb; simp [Value.ownBlock] at hb
  · rw [hv] at hb; simp [Value.ownBlock] at hb; subst hb; exact (Array.getElem?_eq_some_iff.1 hg).1

/-- The sets lie below B0; all that was made since stays. -/
theorem MSet.keep (m : MSet B F0 O0 w M bh bn bd bs br n k H X D S R c fv L) (hb : Below w.heap.size w w') :
    MSet B (fun b => w.heap.size ≤ b ∧ b < w'.heap.size) (fun b => w'.heap[b]?) w' M bh bn bd bs br n k H X D S R c fv L :=
  { m.below hb with
    kp := fun b hF => by
      obtain ⟨l1, l2, l3, l4, l5, l6⟩ := m.lts
      exact ⟨hF.2, rfl, by omega, by omega, by omega, fun e => by have := own_lt m.f e; omega⟩ }

theorem Ini.mset {bl : Nat → Nat} {f : Nat} {Z : Nat → Nat → Int} {w0 : World} (h : Ini B w0 w M bl n k f Z c) (hf : f ≤ 100000) :
    MSet B F0 O0 w M (bl 0) (bl 1) (bl 2) (bl 3) (bl 4) n k (Z 0) (Z 1) (Z 2) (Z 3) (Z 4) c (sl (bl 5) f) (lst f (Z 5)) where
  m := h.m
  h := h.row 0 (by omega)
  x := h.row 1 (by omega)
  d := h.row 2 (by omega)
  s := h.row 3 (by omega)
  r := h.row 4 (by omega)
  f := by
    obtain ⟨cur, hg, hs, hc⟩ := h.row 5 (by omega)
    have hs' : cur.size = f := hs
    refine ⟨by simp, Or.inr ⟨bl 5, f, cur, by rw [lst_len]; rfl, h.ge 5 (by omega), hg, by rw [lst_len]; omega, by unfold maxLen; omega, by omega, ?_⟩⟩
    apply List.ext_getElem?
    intro i
    by_cases hi : i < f
    · have := hc i hi
      rw [lst_len, List.getElem?_take_of_lt (by omega)]
      simp [lst, hi]
      rw [show cur[i]? = some (Sets.nums (Z 5) i) from this]
      rfl
    · rw [List.getElem?_eq_none (by simp [lst_len]; omega), List.getElem?_eq_none (by simp [lst_len]; omega)]
  nn := by simp [sl]
  fM := by simp [sl, Value.ownBlock]; exact fun e => h.nM 5 (by omega) e.symm
  fh := by simp [sl, Value.ownBlock]; exact h.ne 5 0 (by omega) (by omega) (by omega)
  fx := by simp [sl, Value.ownBlock]; exact h.ne 5 1 (by omega) (by omega) (by omega)
  fd := by simp [sl, Value.ownBlock]; exact h.ne 5 2 (by omega) (by omega) (by omega)
  fs := by simp [sl, Value.ownBlock]; exact h.ne 5 3 (by omega) (by omega) (by omega)
  fr := by simp [sl, Value.ownBlock]; exact h.ne 5 4 (by omega) (by omega) (by omega)
  hM := ⟨h.nM 0 (by omega), h.nM 1 (by omega), h.nM 2 (by omega), h.nM 3 (by omega), h.nM 4 (by omega)⟩
  hh := ⟨h.ne 0 1 (by omega) (by omega) (by omega), h.ne 0 2 (by omega) (by omega) (by omega), h.ne 0 3 (by omega) (by omega) (by omega), h.ne 0 4 (by omega) (by omega) (by omega)⟩
  hr := ⟨h.ne 4 1 (by omega) (by omega) (by omega), h.ne 4 2 (by omega) (by omega) (by omega), h.ne 4 3 (by omega) (by omega) (by omega)⟩
  ge := ⟨h.gM, h.ge 0 (by omega), h.ge 4 (by omega)⟩
  kp := fun b hF => hF.elim
end

/-- What the loop has worked out: the wanted refs in block g, the wanted free list. -/
structure WT (w4 w : World) (g k : Nat) (v : Value) (t : St) : Prop where
  bel : Below w4.heap.size w4 w
  r : RowN w g k t.R
  g4 : w4.heap.size ≤ g
  f : Own w (g + 1) v t.L
  nn : ¬ v = .slice none 0 0

section
variable {w4 w w' : World} {g k : Nat} {v : Value} {t : St}

theorem WT.own_ne (h : WT w4 w g k v t) : v.ownBlock ≠ some g := fun e => by have := own_ge h.f e; omega

theorem WT.sameHeap (h : WT w4 w g k v t) (e : w'.heap = w.heap) (b : Below w4.heap.size w4 w') : WT w4 w' g k v t :=
  { h with bel := b, r := h.r.of_block (by rw [e]), f := ⟨h.f.1, by rw [e]; exact h.f.2⟩ }

theorem WT.drew (h : WT w4 w g k v t) (j : Nat) : WT w4 (w.drewN j) g k v t := h.sameHeap (World.heap_drewN _ _) (below_drewN h.bel _)

theorem WT.setRef (h : WT w4 w g k v t) (s : Nat) (x c : Int) : WT w4 (w.setCell ⟨g, s, none⟩ (.int .i32 x)) g k v ⟨c, upd t.R s x, t.L⟩ :=
  { h with
    bel := h.bel.setCell h.g4 _
    r := h.r.set s x
    f := by
      refine ⟨h.f.1, ?_⟩
      rcases h.f.2 with h1 | ⟨g', cap, cur, hv, hb, hg, rest⟩
      · exact Or.inl h1
      · refine Or.inr ⟨g', cap, cur, hv, hb, ?_, rest⟩
        rw [Below.heap_setCell _ _ _ _ (fun e => by simp at e; omega)]
        exact hg }

theorem WT.alloc (h : WT w4 w g k v t) (o : Obj) : WT w4 (w.alloc o) g k v t :=
  { h with bel := h.bel.alloc h.bel.size o, r := h.r.below ((Below.refl _ _).alloc (Nat.le_refl _) o), f := own_below h.f ((Below.refl _ _).alloc (Nat.le_refl _) o) }

theorem WT.appended {v' : Value} {s : Int} (h : WT w4 w g k v t) (hO : w'.ownsRow (g + 1) 21 1 v' (t.L.length + 1) (t.L.map (Value.int .i32) ++ [s].map (Value.int .i32))) (hg : w.grownBy w' v.ownBlock) (hn : ¬ v' = .slice none 0 0) :
    WT w4 w' g k v' ⟨t.c, t.R, t.L ++ [s]⟩ where
  bel := h.bel.grown hg h.bel.size (fun b hb => by have := own_ge h.f hb; have := h.g4; omega)
  r := h.r.of_block (hg.block g h.r.lt (Ne.symm h.own_ne))
  g4 := h.g4
  f := by unfold Own; simpa using hO
  nn := hn
end

theorem own_mono {w : World} {B B' : Nat} {v : Value} {L : List Int} (h : Own w B' v L) (hB : B ≤ B') : Own w B v L := by
  refine ⟨h.1, ?_⟩
  rcases h.2 with h1 | ⟨g, cap, cur, hv, hb, rest⟩
  · exact Or.inl h1
  · exact Or.inr ⟨g, cap, cur, hv, by omega, rest⟩

theorem WT.start {w4 w5 w6 : World} {g k : Nat} {R : Nat → Int} {v : Value} {L : List Int} (c : Int) (r : RowN w5 g k R) (l : w4.heap.size ≤ g) (b5 : Below w4.heap.size w4 w5) (b6 : Below w5.heap.size w5 w6) (hO : Own w6 w5.heap.size v L) (hn : ¬ v = .slice none 0 0) :
    WT w4 w6 g k v ⟨c, R, L⟩ where
  bel := b5.trans (b6.mono b5.size)
  r := r.below b6
  g4 := l
  f := own_mono hO (by have := r.lt; omega)
  nn := hn

theorem free_nums {w : World} {B fb fn : Nat} {L : List Int} (h : Own w B (sl fb fn) L) (hL : L.length = fn) : Nums w fb fn (fun i => L.getD i 0) := by
  obtain ⟨g, cap, e, hB, hr⟩ := own_row h (by simp [sl])
  simp [sl] at e
  obtain ⟨rfl, e2, e3⟩ := e
  rw [hL] at hr
  exact hr.nums

theorem zi_end {B : Nat} {w0 w : World} {M : Nat} {bl : Nat → Nat} {n k fn sn rn : Nat} {c : Int} {zh zx zd zs zr zf : Nat → Int} (h : Ini B w0 w M bl n k fn (ZI k sn rn zh zx zd zs zr zf k n) c) :
    Ini B w0 w M bl n k fn (ZZ (modk k zh) (modk k zx) zd (SZ sn zs) (RZ rn zr) zf) c := by
  refine h.congr (fun j hj i hi => ?_)
  match j, hj with
  | 0, _ | 1, _ | 2, _ | 4, _ =>
    first
    | (have : i < n := hi; simp [ZI, ZZ, part, this])
    | (have : i < k := hi; simp [ZI, ZZ, part, this])
  | 3, _ | 5, _ => rfl

theorem want_start {B : Nat} {w0 w : World} {M : Nat} {bl : Nat → Nat} {n k fn sn rn : Nat} {c : Int} {zh zx zd zs zr zf : Nat → Int} (hk : 1 ≤ k) (hf : fn ≤ 1024) (h : Ini B w0 w M bl n k fn (ZI k sn rn zh zx zd zs zr zf k n) c) :
    ∃ bh bn bd bs br fb H X D S R L, MSet B F0 O0 w M bh bn bd bs br n k H X D S R c (sl fb fn) L ∧ L.length = fn ∧ (∀ i, i < n → 0 ≤ H i ∧ H i < k) ∧ (∀ i, i < n → 0 ≤ X i ∧ X i < k) ∧ Below B w0 w :=
  ⟨_, _, _, _, _, _, _, _, _, _, _, _, (zi_end h).mset (by omega), lst_len _ _, fun _ _ => modk_range hk, fun _ _ => modk_range hk, h.bel⟩

theorem equal_at {w8 wx : World} {g1 g2 n c1 c2 : Nat} {z : Nat → Int} (hb : Below w8.heap.size w8 wx) (r1 : RowN w8 g1 n z) (r2 : RowN w8 g2 n z) (hn : n ≤ 100000) :
    Calls Yba.prog 8 #[.slice (some ⟨g1, 0, none⟩) n c1, .slice (some ⟨g2, 0, none⟩) n c2] wx fun e w' => e = .returned (.bool true) ∧ Below w8.heap.size w8 w' := by
  refine (equal_any g1 g2 n c1 c2 z wx hn (r1.below hb).nums (r2.below hb).nums).mono ?_
  rintro e w' ⟨rfl, h⟩
  exact ⟨rfl, hb.trans (h.mono hb.size)⟩
end Go.Proofs.Ybulkcfaq.Sets
