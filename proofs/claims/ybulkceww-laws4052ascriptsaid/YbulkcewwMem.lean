/-
  LawS4052AScript: what lies in memory. Every block has a role (a ghost number); a step touches the blocks of some roles alone.
-/
import Derived.Test.YbulkcewwLocks
import Derived.WalkKit
import Derived.WalkLawsBesides
import Derived.WalkSpells
import Derived.Below
import Derived.BigQuiet
import Derived.Deep.QuietTactic
import Derived.Deep.LoopGhost
import Derived.Deep.OwnRows
import Derived.Deep.DeepCutAuto
import Derived.Deep.CutBlock
import Derived.Deep.RegionLaw
import Derived.Maps.AppendAt
import Derived.Laws.CopyOwn
import Derived.Defers
import Derived.Conc.MuLone
namespace Go.Proofs.Ybulkceww.Pipe
open Go.RowKit
set_option linter.unusedVariables false
set_option maxRecDepth 100000

theorem info35 : (Yba.prog.info? 35).map (fun i => (i.zero, i.size, i.bytes)) = some (some (.slice none 0 0), 1, 24) := by kernel_rfl
theorem info5 : (Yba.prog.info? 5).map (fun i => (i.zero, i.size, i.bytes)) = some (some (.int .u8 0), 1, 1) := by kernel_rfl
theorem info59 : (Yba.prog.info? 59).map (fun i => (i.zero, i.size, i.bytes)) = some (some (.agg #[.pointer none, .slice none 0 0]), 2, 32) := by kernel_rfl

/-- No block that is not yet there has a role. -/
def Fresh (ρ : Nat → Nat) (w : World) : Prop := ∀ b, w.heap.size ≤ b → ρ b = 0

/-- From w to w' only blocks of the roles S have turned. -/
structure Upd (S : Nat → Prop) (ρ : Nat → Nat) (w : World) (ρ' : Nat → Nat) (w' : World) : Prop where
  os : w'.os = w.os
  tape : w'.tape = w.tape
  output : w'.output = w.output
  size : w.heap.size ≤ w'.heap.size
  role : ∀ b, b < w.heap.size → ρ' b = ρ b
  keep : ∀ b, b < w.heap.size → ¬ S (ρ b) → w'.heap[b]? = w.heap[b]?
  fresh : Fresh ρ' w'

section
variable {S S' : Nat → Prop} {ρ ρ' ρ'' : Nat → Nat} {w w' w'' : World}

theorem Upd.refl (h : Fresh ρ w) : Upd S ρ w ρ w := ⟨rfl, rfl, rfl, Nat.le_refl _, fun _ _ => rfl, fun _ _ _ => rfl, h⟩

theorem Upd.trans (h : Upd S ρ w ρ' w') (k : Upd S ρ' w' ρ'' w'') : Upd S ρ w ρ'' w'' :=
  ⟨k.os.trans h.os, k.tape.trans h.tape, k.output.trans h.output, Nat.le_trans h.size k.size, fun b hb => (k.role b (Nat.lt_of_lt_of_le hb h.size)).trans (h.role b hb),
    fun b hb hs => (k.keep b (Nat.lt_of_lt_of_le hb h.size) (by rw [h.role b hb]; exact hs)).trans (h.keep b hb hs), k.fresh⟩

theorem Upd.mono (h : Upd S ρ w ρ' w') (hs : ∀ r, S r → S' r) : Upd S' ρ w ρ' w' := { h with keep := fun b hb hn => h.keep b hb (fun k => hn (hs _ k)) }

theorem Upd.set (h : Upd S ρ w ρ' w') {a : Addr} (v : Value) (ha : w.heap.size ≤ a.block ∨ S (ρ' a.block)) : Upd S ρ w ρ' (w'.setCell a v) :=
  { h with
    size := by simpa using h.size
    keep := fun b hb hn => by
      rw [Below.heap_setCell _ _ _ _ (fun e => ?_)]
      · exact h.keep b hb hn
      · subst e
        rcases ha with h1 | h1
        · omega
        · rw [h.role _ hb] at h1; exact hn h1
    fresh := fun b hb => h.fresh b (by simpa using hb) }

theorem Upd.alloc (h : Upd S ρ w ρ' w') (o : Obj) : Upd S ρ w ρ' (w'.alloc o) :=
  { h with
    size := by have := h.size; simp; omega
    keep := fun b hb hn => (Below.heap_alloc w' o b (Nat.lt_of_lt_of_le hb h.size)).trans (h.keep b hb hn)
    fresh := fun b hb => h.fresh b (by simp at hb; omega) }

/-- A new block with a role. -/
def updR (ρ : Nat → Nat) (b r : Nat) : Nat → Nat := fun i => if i = b then r else ρ i

theorem Upd.allocR (h : Upd S ρ w ρ' w') (o : Obj) (r : Nat) : Upd S ρ w (updR ρ' w'.heap.size r) (w'.alloc o) :=
  { h with
    size := by have := h.size; simp; omega
    role := fun b hb => by have := h.size; unfold updR; rw [if_neg (by omega)]; exact h.role b hb
    keep := fun b hb hn => (Below.heap_alloc w' o b (Nat.lt_of_lt_of_le hb h.size)).trans (h.keep b hb hn)
    fresh := fun b hb => by simp at hb; unfold updR; rw [if_neg (by omega)]; exact h.fresh b (by omega) }

theorem Upd.same (h : Upd S ρ w ρ' w') (e : w''.heap = w'.heap) (e1 : w''.os = w'.os) (e2 : w''.tape = w'.tape) (e3 : w''.output = w'.output) : Upd S ρ w ρ' w'' :=
  ⟨e1.trans h.os, e2.trans h.tape, e3.trans h.output, by rw [e]; exact h.size, h.role, fun b hb hn => by rw [e]; exact h.keep b hb hn, fun b hb => h.fresh b (by rw [e] at hb; exact hb)⟩

theorem Upd.drewN (h : Upd S ρ w ρ' w') (n : Nat) : Upd S ρ w ρ' (w'.drewN n) := h.same (World.heap_drewN _ _) rfl rfl rfl
theorem Upd.drew (h : Upd S ρ w ρ' w') : Upd S ρ w ρ' w'.drew := h.same rfl rfl rfl rfl

theorem Upd.row (h : Upd S ρ w ρ' w') {b t n : Nat} {f : Nat → Value} (hr : w.rowIs b t n f) (hs : ¬ S (ρ b)) : w'.rowIs b t n f := hr.of_block (h.keep b hr.lt hs)

/-- One byte of an MSU. -/
def Msu (ρ : Nat → Nat) (w : World) (b : Nat) (x : Int) : Prop := ρ b = 9 ∧ w.cell? ⟨b, 0, none⟩ = some (.int .u8 x)

theorem Msu.keep {b : Nat} {x : Int} (h : Msu ρ w b x) (u : Upd S ρ w ρ' w') (h9 : ¬ S 9) : Msu ρ' w' b x := by
  have hlt : b < w.heap.size := World.block_lt_of_cell? _ _ h.2
  exact ⟨(u.role b hlt).trans h.1, (World.cell?_of_block (u.keep b hlt (by rw [h.1]; exact h9))).trans h.2⟩

/-- A list of MSUs of one byte each, in a row of role r. -/
def VL (ρ : Nat → Nat) (w : World) (r : Nat) (v : Value) (L : List Int) : Prop :=
  ∃ xs, w.ownsRow 0 35 1 v L.length xs ∧ (∀ k, v.ownBlock = some k → ρ k = r) ∧ ∀ i, i < L.length → ∃ b c, xs[i]? = some (.slice (some ⟨b, 0, none⟩) 1 c) ∧ Msu ρ w b (L.getD i 0)

theorem owns_of_block {e size n : Nat} {v : Value} {xs : List Value} (h : w.ownsRow 0 e size v n xs) (hb : ∀ k, v.ownBlock = some k → k < w.heap.size → w'.heap[k]? = w.heap[k]?) : w'.ownsRow 0 e size v n xs := by
  refine ⟨h.1, ?_⟩
  rcases h.2 with h1 | ⟨g, cap, cur, hv, hB, hg, rest⟩
  · exact Or.inl h1
  · refine Or.inr ⟨g, cap, cur, hv, hB, ?_, rest⟩
    rw [hb g (by rw [hv]; rfl) (Array.getElem?_eq_some_iff.1 hg).1]
    exact hg

theorem owns_lt {e size n : Nat} {v : Value} {xs : List Value} (h : w.ownsRow 0 e size v n xs) {k : Nat} (hk : v.ownBlock = some k) : k < w.heap.size := by
  rcases h.2 with ⟨h1, _⟩ | ⟨g, cap, cur, hv, hB, hg, rest⟩
  · rw [h1] at hk; simp [Value.ownBlock] at hk
  · rw [hv] at hk; simp [Value.ownBlock] at hk; subst hk; exact (Array.getElem?_eq_some_iff.1 hg).1

theorem VL.keep {r : Nat} {v : Value} {L : List Int} (h : VL ρ w r v L) (u : Upd S ρ w ρ' w') (hr : ¬ S r) (h9 : ¬ S 9) : VL ρ' w' r v L := by
  obtain ⟨xs, ho, hk, hx⟩ := h
  refine ⟨xs, owns_of_block ho (fun k e hl => u.keep k hl (by rw [hk k e]; exact hr)), fun k e => (u.role k (owns_lt ho e)).trans (hk k e), fun i hi => ?_⟩
  obtain ⟨b, c, h1, h2⟩ := hx i hi
  exact ⟨b, c, h1, h2.keep u h9⟩

/-- What an append does to the roles. -/
theorem upd_append {r e size n m : Nat} {v v' : Value} {xs : List Value} (hf : Fresh ρ w) (hk : ∀ k, v.ownBlock = some k → ρ k = r)
    (hO : w'.ownsRow 0 e size v' m xs) (hg : w.grownBy w' v.ownBlock) (hbk : v'.ownBlock = v.ownBlock ∨ v'.ownBlock = some w.heap.size) :
    ∃ ρ', Upd (fun q => q = r) ρ w ρ' w' ∧ ∀ k, v'.ownBlock = some k → ρ' k = r := by
  rcases hbk with h | h
  · refine ⟨ρ, ⟨hg.os, hg.tape, hg.output, hg.size, fun _ _ => rfl, fun b hb hn => hg.block b hb (fun e => hn (hk b e.symm)), fun b hb => hf b (Nat.le_trans hg.size hb)⟩, fun k e => hk k (h ▸ e)⟩
  · have hlt := owns_lt hO h
    refine ⟨updR ρ w.heap.size r, ⟨hg.os, hg.tape, hg.output, hg.size, fun b hb => by unfold updR; rw [if_neg (by omega)], fun b hb hn => hg.block b hb (fun e => hn (hk b e.symm)), fun b hb => ?_⟩, fun k e => ?_⟩
    · have := hg.size
      unfold updR; rw [if_neg (by omega)]; exact hf b (by omega)
    · rw [h] at e; simp at e; subst e; simp [updR]

theorem VL.appended {r : Nat} {v v' : Value} {L L2 : List Int} {xs ys : List Value} (hf : Fresh ρ w) (hr9 : r ≠ 9) (hk : ∀ k, v.ownBlock = some k → ρ k = r)
    (hx : ∀ i, i < L.length → ∃ b c, xs[i]? = some (.slice (some ⟨b, 0, none⟩) 1 c) ∧ Msu ρ w b (L.getD i 0)) (hy : ∀ i, i < L2.length → ∃ b c, ys[i]? = some (.slice (some ⟨b, 0, none⟩) 1 c) ∧ Msu ρ w b (L2.getD i 0)) (hxl : xs.length = L.length)
    (hO : w'.ownsRow 0 35 1 v' (L.length + L2.length) (xs ++ ys)) (hg : w.grownBy w' v.ownBlock) (hbk : v'.ownBlock = v.ownBlock ∨ v'.ownBlock = some w.heap.size) :
    ∃ ρ', VL ρ' w' r v' (L ++ L2) ∧ Upd (fun q => q = r) ρ w ρ' w' := by
  obtain ⟨ρ', u, hk'⟩ := upd_append (n := 0) hf hk hO hg hbk
  refine ⟨ρ', ⟨xs ++ ys, by rw [List.length_append]; exact hO, hk', fun i hi => ?_⟩, u⟩
  by_cases h1 : i < L.length
  · obtain ⟨b, c, e1, e2⟩ := hx i h1
    refine ⟨b, c, by rw [List.getElem?_append_left (by omega)]; exact e1, ?_⟩
    have : (L ++ L2).getD i 0 = L.getD i 0 := by simp [List.getD, List.getElem?_append_left h1]
    rw [this]; exact e2.keep u (by simpa using fun h => hr9 h.symm)
  · rw [List.length_append] at hi
    obtain ⟨b, c, e1, e2⟩ := hy (i - L.length) (by omega)
    refine ⟨b, c, by rw [List.getElem?_append_right (by omega), hxl]; exact e1, ?_⟩
    have : (L ++ L2).getD i 0 = L2.getD (i - L.length) 0 := by simp [List.getD, List.getElem?_append_right (Nat.le_of_not_lt h1)]
    rw [this]; exact e2.keep u (by simpa using fun h => hr9 h.symm)

/-- The queue: ms wait behind nx taken ones. -/
def QS (ρ : Nat → Nat) (w : World) (v : Value) (nx : Nat) (ms : List (Value × Value)) : Prop :=
  ∃ xs, w.ownsRow 0 59 2 v (nx + ms.length) xs ∧ (∀ k, v.ownBlock = some k → ρ k = 6) ∧ ∀ i, i < ms.length → xs[2 * (nx + i)]? = (ms[i]?).map (·.1) ∧ xs[2 * (nx + i) + 1]? = (ms[i]?).map (·.2)

theorem QS.keep {v : Value} {nx : Nat} {ms : List (Value × Value)} (h : QS ρ w v nx ms) (u : Upd S ρ w ρ' w') (hr : ¬ S 6) : QS ρ' w' v nx ms := by
  obtain ⟨xs, ho, hk, hx⟩ := h
  exact ⟨xs, owns_of_block ho (fun k e hl => u.keep k hl (by rw [hk k e]; exact hr)), fun k e => (u.role k (owns_lt ho e)).trans (hk k e), hx⟩

def dS : ByteArray := ⟨#[100, 101, 108, 105, 118, 101, 114]⟩
def hS : ByteArray := ⟨#[104, 111, 108, 100]⟩
def pS : ByteArray := ⟨#[100, 114, 111, 112]⟩

/-- The cells of a pipe. -/
def pc (m0 m1 : Int) (iv : Value) (nx : Int) (dl : Bool) : Nat → Value
  | 0 => .int .i32 m0
  | 2 => .int .i32 m1
  | 4 => iv
  | 5 => .int .i64 nx
  | 6 => .bool dl
  | _ => .int .u32 0

def Pip (ρ : Nat → Nat) (w : World) (P : Nat) (m0 m1 : Int) (iv : Value) (nx : Int) (dl : Bool) : Prop := ρ P = 1 ∧ w.rowIs P 56 7 (pc m0 m1 iv nx dl)

/-- The cells of an end. -/
def ec (P peer : Nat) (rc md hv : Value) : Nat → Value
  | 0 => .pointer (some ⟨P, 0, none⟩)
  | 1 => .pointer (some ⟨peer, 0, none⟩)
  | 2 => rc
  | 3 => md
  | _ => hv

def EndS (ρ : Nat → Nat) (w : World) (r E P peer : Nat) (rc md hv : Value) : Prop := ρ E = r ∧ w.rowIs E 40 5 (ec P peer rc md hv)
def Rcv (ρ : Nat → Nat) (w : World) (r R : Nat) (lv : Value) : Prop := ρ R = r ∧ w.rowIs R 29 1 (fun _ => lv)

theorem Pip.keep {P : Nat} {m0 m1 : Int} {iv : Value} {nx : Int} {dl : Bool} (h : Pip ρ w P m0 m1 iv nx dl) (u : Upd S ρ w ρ' w') (hs : ¬ S 1) : Pip ρ' w' P m0 m1 iv nx dl :=
  ⟨(u.role P h.2.lt).trans h.1, u.row h.2 (by rw [h.1]; exact hs)⟩
theorem EndS.keep {r E P peer : Nat} {rc md hv : Value} (h : EndS ρ w r E P peer rc md hv) (u : Upd S ρ w ρ' w') (hs : ¬ S r) : EndS ρ' w' r E P peer rc md hv :=
  ⟨(u.role E h.2.lt).trans h.1, u.row h.2 (by rw [h.1]; exact hs)⟩
theorem Rcv.keep {r R : Nat} {lv : Value} (h : Rcv ρ w r R lv) (u : Upd S ρ w ρ' w') (hs : ¬ S r) : Rcv ρ' w' r R lv :=
  ⟨(u.role R h.2.lt).trans h.1, u.row h.2 (by rw [h.1]; exact hs)⟩

theorem Pip.set0 {P : Nat} {m0 m1 : Int} {iv : Value} {nx : Int} {dl : Bool} (h : Pip ρ w P m0 m1 iv nx dl) (x : Int) : Pip ρ (w.setCell ⟨P, 0, none⟩ (.int .i32 x)) P x m1 iv nx dl :=
  ⟨h.1, (h.2.set 0 _).congr (fun i hi => by match i, hi with | 0, _ | 1, _ | 2, _ | 3, _ | 4, _ | 5, _ | 6, _ => rfl)⟩
theorem Pip.set2 {P : Nat} {m0 m1 : Int} {iv : Value} {nx : Int} {dl : Bool} (h : Pip ρ w P m0 m1 iv nx dl) (x : Int) : Pip ρ (w.setCell ⟨P, 2, none⟩ (.int .i32 x)) P m0 x iv nx dl :=
  ⟨h.1, (h.2.set 2 _).congr (fun i hi => by match i, hi with | 0, _ | 1, _ | 2, _ | 3, _ | 4, _ | 5, _ | 6, _ => rfl)⟩
theorem Pip.set4 {P : Nat} {m0 m1 : Int} {iv : Value} {nx : Int} {dl : Bool} (h : Pip ρ w P m0 m1 iv nx dl) (x : Value) : Pip ρ (w.setCell ⟨P, 4, none⟩ x) P m0 m1 x nx dl :=
  ⟨h.1, (h.2.set 4 _).congr (fun i hi => by match i, hi with | 0, _ | 1, _ | 2, _ | 3, _ | 4, _ | 5, _ | 6, _ => rfl)⟩
theorem Pip.set5 {P : Nat} {m0 m1 : Int} {iv : Value} {nx : Int} {dl : Bool} (h : Pip ρ w P m0 m1 iv nx dl) (x : Int) : Pip ρ (w.setCell ⟨P, 5, none⟩ (.int .i64 x)) P m0 m1 iv x dl :=
  ⟨h.1, (h.2.set 5 _).congr (fun i hi => by match i, hi with | 0, _ | 1, _ | 2, _ | 3, _ | 4, _ | 5, _ | 6, _ => rfl)⟩
theorem Pip.set6 {P : Nat} {m0 m1 : Int} {iv : Value} {nx : Int} {dl : Bool} (h : Pip ρ w P m0 m1 iv nx dl) (x : Bool) : Pip ρ (w.setCell ⟨P, 6, none⟩ (.bool x)) P m0 m1 iv nx x :=
  ⟨h.1, (h.2.set 6 _).congr (fun i hi => by match i, hi with | 0, _ | 1, _ | 2, _ | 3, _ | 4, _ | 5, _ | 6, _ => rfl)⟩
theorem EndS.set2 {r E P peer : Nat} {rc md hv : Value} (h : EndS ρ w r E P peer rc md hv) (x : Value) : EndS ρ (w.setCell ⟨E, 2, none⟩ x) r E P peer x md hv :=
  ⟨h.1, (h.2.set 2 _).congr (fun i hi => by match i, hi with | 0, _ | 1, _ | 2, _ | 3, _ | 4, _ => rfl)⟩
theorem EndS.set3 {r E P peer : Nat} {rc md hv : Value} (h : EndS ρ w r E P peer rc md hv) (x : Value) : EndS ρ (w.setCell ⟨E, 3, none⟩ x) r E P peer rc x hv :=
  ⟨h.1, (h.2.set 3 _).congr (fun i hi => by match i, hi with | 0, _ | 1, _ | 2, _ | 3, _ | 4, _ => rfl)⟩
theorem EndS.set4 {r E P peer : Nat} {rc md hv : Value} (h : EndS ρ w r E P peer rc md hv) (x : Value) : EndS ρ (w.setCell ⟨E, 4, none⟩ x) r E P peer rc md x :=
  ⟨h.1, (h.2.set 4 _).congr (fun i hi => by match i, hi with | 0, _ | 1, _ | 2, _ | 3, _ | 4, _ => rfl)⟩
theorem Rcv.set0 {r R : Nat} {lv : Value} (h : Rcv ρ w r R lv) (x : Value) : Rcv ρ (w.setCell ⟨R, 0, none⟩ x) r R x :=
  ⟨h.1, (h.2.set 0 _).congr (fun i hi => by match i, hi with | 0, _ => rfl)⟩

end
end Go.Proofs.Ybulkceww.Pipe
