/-
  LawS4059BModel: the sets while they are laid (six rows and the struct, all in blocks of their own); copy into one of the rows.
-/
import Derived.Test.YbulkcfaqMakes
import Derived.Laws.CopyOwn
namespace Go.Proofs.Ybulkcfaq.Sets
open Go.RowKit
set_option linter.unusedVariables false
set_option maxRecDepth 100000

def nsf (n k f : Nat) : Nat → Nat | 0 => n | 1 => n | 2 => n | 3 => k | 4 => k | _ => f
def ZZ (H X D S R G : Nat → Int) : Nat → Nat → Int | 0 => H | 1 => X | 2 => D | 3 => S | 4 => R | _ => G
def updZ (Z : Nat → Nat → Int) (j s : Nat) (v : Int) : Nat → Nat → Int := fun j' i => if j' = j ∧ i = s then v else Z j' i

structure Ini (B : Nat) (w0 w : World) (M : Nat) (bl : Nat → Nat) (n k f : Nat) (Z : Nat → Nat → Int) (c : Int) : Prop where
  m : w.rowIs M 32 10 (mcells (bl 0) (bl 1) (bl 2) (bl 3) (bl 4) n k c (sl (bl 5) f))
  row : ∀ j, j < 6 → w.rowIs (bl j) 21 (nsf n k f j) (nums (Z j))
  ge : ∀ j, j < 6 → B ≤ bl j
  gM : B ≤ M
  ne : ∀ i j, i < 6 → j < 6 → i ≠ j → bl i ≠ bl j
  nM : ∀ j, j < 6 → M ≠ bl j
  bel : Below B w0 w

section
variable {B : Nat} {w0 w : World} {M : Nat} {bl : Nat → Nat} {n k f : Nat} {Z Z' : Nat → Nat → Int} {c : Int}

theorem Ini.congr (h : Ini B w0 w M bl n k f Z c) (e : ∀ j, j < 6 → ∀ i, i < nsf n k f j → Z j i = Z' j i) : Ini B w0 w M bl n k f Z' c :=
  { h with row := fun j hj => (h.row j hj).congr (fun i hi => by unfold nums; rw [e j hj i hi]) }

theorem Ini.set (h : Ini B w0 w M bl n k f Z c) (j : Nat) (hj : j < 6) (s : Nat) (v : Int) : Ini B w0 (w.setCell ⟨bl j, s, none⟩ (.int .i32 v)) M bl n k f (updZ Z j s v) c :=
  { h with
    m := h.m.setOther (h.nM j hj) _
    bel := h.bel.setCell (h.ge j hj) _
    row := fun i hi => by
      by_cases e : i = j
      · subst e
        exact ((h.row i hi).set s _).congr (fun t _ => by unfold nums updZ; by_cases e2 : t = s <;> simp [e2])
      · exact ((h.row i hi).setOther (h.ne i j hi hj e) _).congr (fun t _ => by unfold nums updZ; simp [e]) }

theorem Ini.sameHeap {w' : World} (h : Ini B w0 w M bl n k f Z c) (e : w'.heap = w.heap) (b : Below B w0 w') : Ini B w0 w' M bl n k f Z c :=
  { h with m := h.m.of_block (by rw [e]), row := fun j hj => (h.row j hj).of_block (by rw [e]), bel := b }

theorem Ini.drew (h : Ini B w0 w M bl n k f Z c) (j : Nat) : Ini B w0 (w.drewN j) M bl n k f Z c :=
  h.sameHeap (World.heap_drewN (w := w) (n := j)) (below_drewN h.bel j)

/-- n numbers of kind int32 lie where a slice points to. -/
def Src32 (w : World) (a : Option Addr) (n : Nat) (z : Nat → Int) : Prop := 0 < n → ∃ b off, a = some ⟨b, off, none⟩ ∧ ∀ j, j < n → w.cell? ⟨b, off + j, none⟩ = some (.int .i32 (z j))
/-- n nodes lie where a slice points to: three cells each. -/
def SrcN (w : World) (a : Option Addr) (n : Nat) (h x d : Nat → Int) : Prop :=
  0 < n → ∃ b off, a = some ⟨b, off, none⟩ ∧ ∀ j, j < n → w.cell? ⟨b, off + j * 3, none⟩ = some (.int .u8 (h j)) ∧ w.cell? ⟨b, off + j * 3 + 1, none⟩ = some (.int .u8 (x j)) ∧ w.cell? ⟨b, off + j * 3 + 2, none⟩ = some (.int .i32 (d j)) ∧ 0 ≤ h j ∧ h j < 256 ∧ 0 ≤ x j ∧ x j < 256

theorem Src32.below {w' : World} {a : Option Addr} {n : Nat} {z : Nat → Int} (h : Src32 w a n z) (hb : Below w.heap.size w w') : Src32 w' a n z := by
  intro hn
  obtain ⟨b, off, e, hc⟩ := h hn
  exact ⟨b, off, e, fun j hj => (hb.cell (World.block_lt_of_cell? _ _ (hc j hj))).trans (hc j hj)⟩

theorem SrcN.below {w' : World} {a : Option Addr} {n : Nat} {x y z : Nat → Int} (h : SrcN w a n x y z) (hb : Below w.heap.size w w') : SrcN w' a n x y z := by
  intro hn
  obtain ⟨b, off, e, hc⟩ := h hn
  refine ⟨b, off, e, fun j hj => ?_⟩
  obtain ⟨h1, h2, h3, h4⟩ := hc j hj
  exact ⟨(hb.cell (World.block_lt_of_cell? _ _ h1)).trans h1, (hb.cell (World.block_lt_of_cell? _ _ h2)).trans h2, (hb.cell (World.block_lt_of_cell? _ _ h3)).trans h3, h4⟩

def cpZ (Z : Nat → Nat → Int) (j len : Nat) (z : Nat → Int) : Nat → Nat → Int := fun j' i => if j' = j ∧ i < len then z i else Z j' i

theorem Ini.copied {g : Nat} (h : Ini B w0 w M bl n k f Z c) (j : Nat) (hj : j < 6) (cur : Array Value) (hg : w.heap[bl j]? = some (.cells cur 21 (0, 0))) (hcs : cur.size = nsf n k f j) (hcur : ∀ i, i < nsf n k f j → cur[i]? = some (nums (Z j) i)) (z : Nat → Int) (len : Nat) (hlen : len ≤ nsf n k f j) :
    Ini B w0 (w.setRow (bl j) (cur.toList.take 0 ++ ((List.range len).map (fun i => Value.int .i32 (z i)) ++ cur.toList.drop (0 + ((List.range len).map (fun i => Value.int .i32 (z i))).length))).toArray) M bl n k f (cpZ Z j len z) c := by
  have other : ∀ b cs, b ≠ bl j → (w.setRow (bl j) cs).heap[b]? = w.heap[b]? := fun b cs hb => setRow_other w (bl j) b cs hb
  exact
  { h with
    m := h.m.of_block (other _ _ (h.nM j hj))
    bel := below_setRow h.bel (h.ge j hj) _
    row := fun i hi => by
      by_cases e : i = j
      · subst e
        refine ⟨_, setRow_heap w (bl i) _ _ 21 _ hg, by simp; omega, fun t ht => ?_⟩
        have := hcur t ht
        by_cases h1 : t < len
        · simp [nums, cpZ, h1]
          rw [List.getElem?_append_left (by simpa using h1)]
          simp [h1]
        · rw [show (cur.toList.take 0 ++ ((List.range len).map (fun i => Value.int .i32 (z i)) ++ cur.toList.drop (0 + ((List.range len).map (fun i => Value.int .i32 (z i))).length))) = (List.range len).map (fun i => Value.int .i32 (z i)) ++ cur.toList.drop len by simp]
          simp only [List.getElem?_toArray]
          rw [List.getElem?_append_right (by simp; omega)]
          simp [nums, cpZ, h1]
          rw [show len + (t - len) = t by omega, this]
          rfl
      · exact ((h.row i hi).of_block (other _ _ (h.ne i j hi hj e))).congr (fun t _ => by unfold nums cpZ; simp [e]) }

theorem wpList_copy_ini {P : Program} {ops : Array Oper} {rest : List Oper} {o : Oper} {a : Act} {Q : Exit → Act → World → Prop} (hgd : o.guard = none) (d s : Operand) 
    (ho : o.op = .call { callee := .builtin .copy, args := #[d, s], argTypes := #[26, 26] }) (hu : P.underlying 26 = some (.slice 21)) (hsz : (P.info? 21).map (·.size) = some 1)
    (h : Ini B w0 w M bl n k f Z c) (j : Nat) (hj : j < 6) (N : Nat) (hN : nsf n k f j = N) (sp : Option Addr) (sLen sCap : Nat) (hd : a.eval d = .slice (some ⟨bl j, 0, none⟩) N N) (hs : a.eval s = .slice sp sLen sCap)
    (z : Nat → Int) (hsrc : Src32 w sp sLen z) (hlen : sLen ≤ N)
    (hK : ∀ w', Hid (Ini B w0 w' M bl n k f (cpZ Z j sLen z) c) → wpList P ops Q rest (a.put o.dst (goInt sLen)) w') : wpList P ops Q (o :: rest) a w := by
  subst hN
  by_cases h0 : sLen = 0
  · subst h0
    refine wpList_copy_nothing hgd d s 26 26 ho 21 hu hsz _ sp _ _ 0 sCap hd hs (by simp) ?_
    exact hK w (show Ini _ _ _ _ _ _ _ _ _ _ from h.congr (fun _ _ _ _ => by simp [cpZ]))
  · obtain ⟨b, off, rfl, hc⟩ := hsrc (by omega)
    obtain ⟨cur, hg, hcs, hcur⟩ := h.row j hj
    have hl : ((List.range sLen).map (fun i => Value.int .i32 (z i))).length = sLen := by simp
    refine wpList_copy_own hgd d s 26 26 ho 21 hu hsz (bl j) 0 _ _ ⟨b, off, none⟩ sLen sCap hd hs cur 21 hg ((List.range sLen).map (fun i => Value.int .i32 (z i))) (by rw [hl]; exact (Nat.min_eq_left hlen).symm) ?_ (by rw [hl]; omega) ?_ ?_
    · intro i v hv
      have hi : i < sLen := by
        have := (List.getElem?_eq_some_iff.1 hv).1
        simpa using this
      have := hc i hi
      simp [hi] at hv
      rw [← hv, Addr.add_lit]; exact this
    · intro v hv
      obtain ⟨i, _, rfl⟩ := List.mem_map.1 hv
      rfl
    · have := hK _ (show Ini _ _ _ _ _ _ _ _ _ _ from h.copied (g := 0) j hj cur hg hcs hcur z sLen hlen)
      rw [hl] at this ⊢
      exact this
end
end Go.Proofs.Ybulkcfaq.Sets
