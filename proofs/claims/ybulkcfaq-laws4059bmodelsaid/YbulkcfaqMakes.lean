/-
  Six makeSlice in one region that draws its order: whatever the order, six new rows of zeros in six blocks.
-/
import Derived.Test.YbulkcfaqEnd
import Derived.RegionTactic
namespace Go.Proofs.Ybulkcfaq.Sets
open Go.RowKit
set_option linter.unusedVariables false
set_option maxRecDepth 100000

section
variable {P : Program} {ops : Array Oper} {Q : Exit → Act → World → Prop} {md : Region.Mode}

theorem wpOp_make {i : Nat} {o : Oper} {K : Act → World → Prop} {a : Act} {w : World} (ho : ops[i]? = some o) (hg : o.guard = none) (l : Operand) (t : TypeId) (hop : o.op = Op.makeSlice t l l)
    (e : TypeId) (ti : TypeInfo) (z : Value) (ht : P.underlying t = some (.slice e)) (hi : P.info? e = some ti) (hz : ti.zero = some z) (hsize : ti.size = 1) (hz1 : z.cells = #[z])
    (n : Nat) (hl : a.eval l = .int .i64 (n : Int)) (hbytes : ti.bytes * n ≤ 281474976710656) (h63 : n ≤ 9223372036854775807)
    (hK : K (a.put o.dst (.slice (some ⟨w.heap.size, 0, none⟩) n n)) (w.alloc (.cells (madeCells #[z] n) e))) : wpOp P ops Q i K a w := by
  refine wpOp_step ho fun K' hK' => ?_
  have hw : Region.wanted o (yielded ops a.tmps) = true := by simp [Region.wanted, hg]
  rw [if_pos hw]
  have hrun := run_make_row (P := P) t e ti z ht hi hz hsize hz1 .i64 .i64 n hbytes h63 w
  unfold Oper.wp
  simp [execOp, hop, hl, hrun, Result.andThen]
  exact hK' _ _ hK

def ix : Nat → Nat | 0 => 1 | 1 => 3 | 2 => 5 | 3 => 7 | 4 => 9 | _ => 12
def ds : Nat → Nat | 0 => 52 | 1 => 54 | 2 => 56 | 3 => 58 | 4 => 60 | _ => 63
def ss : Nat → Nat | 0 => 51 | 1 => 53 | 2 => 55 | 3 => 57 | 4 => 59 | _ => 62

def L6 (b0 b1 b2 b3 b4 b5 : Bool) : Array Bool := #[true, b0, true, b1, true, b2, true, b3, true, b4, true, true, b5, true, false, false, false]
def mkL (bs : Nat → Bool) : Array Bool := L6 (bs 0) (bs 1) (bs 2) (bs 3) (bs 4) (bs 5)
def rdy6 (b0 b1 b2 b3 b4 b5 : Bool) : List Nat :=
  (if b0 then [] else [1]) ++ (if b1 then [] else [3]) ++ (if b2 then [] else [5]) ++ (if b3 then [] else [7]) ++ (if b4 then [] else [9]) ++ (if b5 then [] else [12]) ++ (if b0 && b1 && b2 && b3 && b4 && b5 then [14] else [])
def cnt6 (b0 b1 b2 b3 b4 b5 : Bool) : Nat := (!b0).toNat + (!b1).toNat + (!b2).toNat + (!b3).toNat + (!b4).toNat + (!b5).toNat
def cnt (bs : Nat → Bool) : Nat := cnt6 (bs 0) (bs 1) (bs 2) (bs 3) (bs 4) (bs 5)
def setB (bs : Nat → Bool) (j : Nat) : Nat → Bool := fun i => if i = j then true else bs i

theorem mem_rdy6 : ∀ (b0 b1 b2 b3 b4 b5 : Bool), cnt6 b0 b1 b2 b3 b4 b5 ≠ 0 → ∀ i ∈ rdy6 b0 b1 b2 b3 b4 b5, (i = 1 ∧ b0 = false) ∨ (i = 3 ∧ b1 = false) ∨ (i = 5 ∧ b2 = false) ∨ (i = 7 ∧ b3 = false) ∨ (i = 9 ∧ b4 = false) ∨ (i = 12 ∧ b5 = false) := by
  intro b0 b1 b2 b3 b4 b5
  cases b0 <;> cases b1 <;> cases b2 <;> cases b3 <;> cases b4 <;> cases b5 <;> simp [rdy6, cnt6]
theorem rdy6_ne : ∀ (b0 b1 b2 b3 b4 b5 : Bool), rdy6 b0 b1 b2 b3 b4 b5 ≠ [] := by decide
theorem cnt6_zero : ∀ (b0 b1 b2 b3 b4 b5 : Bool), cnt6 b0 b1 b2 b3 b4 b5 = 0 → b0 = true ∧ b1 = true ∧ b2 = true ∧ b3 = true ∧ b4 = true ∧ b5 = true := by decide

theorem mem_rdy (bs : Nat → Bool) (h : cnt bs ≠ 0) (i : Nat) (hi : i ∈ rdy6 (bs 0) (bs 1) (bs 2) (bs 3) (bs 4) (bs 5)) : ∃ j, j < 6 ∧ i = ix j ∧ bs j = false := by
  rcases mem_rdy6 _ _ _ _ _ _ h i hi with ⟨e, hb⟩ | ⟨e, hb⟩ | ⟨e, hb⟩ | ⟨e, hb⟩ | ⟨e, hb⟩ | ⟨e, hb⟩
  · exact ⟨0, by omega, e, hb⟩
  · exact ⟨1, by omega, e, hb⟩
  · exact ⟨2, by omega, e, hb⟩
  · exact ⟨3, by omega, e, hb⟩
  · exact ⟨4, by omega, e, hb⟩
  · exact ⟨5, by omega, e, hb⟩

theorem mkL_set (bs : Nat → Bool) : ∀ j, j < 6 → (mkL bs).setIfInBounds (ix j) true = mkL (setB bs j)
  | 0, _ | 1, _ | 2, _ | 3, _ | 4, _ | 5, _ => rfl

theorem cnt_set (bs : Nat → Bool) : ∀ j, j < 6 → bs j = false → cnt bs = cnt (setB bs j) + 1
  | 0, _, h | 1, _, h | 2, _, h | 3, _, h | 4, _, h | 5, _, h => by simp [cnt, cnt6, setB, h]; try omega

/-- Six rows of zeros. -/
structure Six (w0 w : World) (bs : Nat → Bool) (bl ns : Nat → Nat) : Prop where
  row : ∀ j, j < 6 → bs j = true → w.rowIs (bl j) 21 (ns j) (fun _ => .int .i32 0)
  ge : ∀ j, j < 6 → bs j = true → w0.heap.size ≤ bl j
  ne : ∀ i j, i < 6 → j < 6 → bs i = true → bs j = true → i ≠ j → bl i ≠ bl j
  bel : Below w0.heap.size w0 w

structure Inv (a0 a : Act) (bs : Nat → Bool) (bl ns : Nat → Nat) : Prop where
  df : a.defers = a0.defers
  sz : a.tmps.size = a0.tmps.size
  old : ∀ t, (∀ j, j < 6 → bs j = true → t ≠ ds j) → a.tmps[t]? = a0.tmps[t]?
  new : ∀ j, j < 6 → bs j = true → a.tmps[ds j]? = some (.slice (some ⟨bl j, 0, none⟩) (ns j) (ns j))

theorem ds_inj : ∀ i, i < 6 → ∀ j, j < 6 → ds i = ds j → i = j := by decide
theorem ss_ds : ∀ i, i < 6 → ∀ j, j < 6 → ss i ≠ ds j := by decide
theorem ds_lt : ∀ i, i < 6 → ds i < 64 := by decide

theorem Six.step {w0 w : World} {bs : Nat → Bool} {bl ns : Nat → Nat} (h : Six w0 w bs bl ns) (j : Nat) (hj : bs j = false) :
    Six w0 (w.alloc (.cells (madeCells #[.int .i32 0] (ns j)) 21)) (setB bs j) (fun i => if i = j then w.heap.size else bl i) ns := by
  refine ⟨fun i hi hb => ?_, fun i hi hb => ?_, fun i i' hi hi' hb hb' hne => ?_, h.bel.alloc h.bel.size _⟩
  · by_cases e : i = j
    · subst e; rw [if_pos rfl]; exact World.rowIs_made w _ _ _
    · rw [if_neg e]; exact (h.row i hi (by simpa [setB, e] using hb)).alloc _
  · by_cases e : i = j
    · rw [if_pos e]; exact h.bel.size
    · rw [if_neg e]; exact h.ge i hi (by simpa [setB, e] using hb)
  · by_cases e : i = j
    · by_cases e' : i' = j
      · omega
      · rw [if_pos e, if_neg e']
        have := (h.row i' hi' (by simpa [setB, e'] using hb')).lt
        omega
    · rw [if_neg e]
      have h1 := (h.row i hi (by simpa [setB, e] using hb)).lt
      by_cases e' : i' = j
      · rw [if_pos e']; omega
      · rw [if_neg e']; exact h.ne i i' hi hi' (by simpa [setB, e] using hb) (by simpa [setB, e'] using hb') hne

theorem Inv.step {a0 a : Act} {bs : Nat → Bool} {bl ns : Nat → Nat} (h : Inv a0 a bs bl ns) (h64 : 64 ≤ a0.tmps.size) (j b : Nat) (hj6 : j < 6) (hj : bs j = false) :
    Inv a0 (a.put (some (ds j)) (.slice (some ⟨b, 0, none⟩) (ns j) (ns j))) (setB bs j) (fun i => if i = j then b else bl i) ns := by
  have hd := ds_lt j hj6
  refine ⟨h.df, by simpa [Act.put] using h.sz, fun t ht => ?_, fun i hi hb => ?_⟩
  · have h1 : ds j ≠ t := fun e => ht j hj6 (by simp [setB]) e.symm
    have h2 := h.old t (fun i hi hb => ht i hi (by unfold setB; split <;> simp [hb]))
    simp [Act.put, Array.getElem?_setIfInBounds_ne h1, h2]
  · by_cases e : i = j
    · subst e
      have : ds i < a.tmps.size := by rw [h.sz]; omega
      simp [Act.put, this]
    · have h1 : ds j ≠ ds i := fun e' => e (ds_inj _ hi _ hj6 e'.symm)
      have h2 := h.new i hi (by simpa [setB, e] using hb)
      simp [Act.put, Array.getElem?_setIfInBounds_ne h1, h2, e]

def sl (b n : Nat) : Value := .slice (some ⟨b, 0, none⟩) n n
def puts (a : Act) (bl ns : Nat → Nat) : Act :=
  (((((a.put (some 52) (sl (bl 0) (ns 0))).put (some 54) (sl (bl 1) (ns 1))).put (some 56) (sl (bl 2) (ns 2))).put (some 58) (sl (bl 3) (ns 3))).put (some 60) (sl (bl 4) (ns 4))).put (some 63) (sl (bl 5) (ns 5))

theorem Inv.whole {a0 a : Act} {bs : Nat → Bool} {bl ns : Nat → Nat} (h : Inv a0 a bs bl ns) (h64 : 64 ≤ a0.tmps.size) (hall : ∀ j, j < 6 → bs j = true) : a = puts a0 bl ns := by
  obtain ⟨tm, df⟩ := a
  have h1 := h.df
  have h2 := h.sz
  have h3 := h.old
  have h4 := fun j hj => h.new j hj (hall j hj)
  simp only at h1 h2 h3 h4
  have hd : (puts a0 bl ns).defers = a0.defers := by simp only [puts, Act.put]
  have ht : tm = (puts a0 bl ns).tmps := by
    apply Array.ext_getElem?
    intro t
    simp only [puts, Act.put, Array.getElem?_setIfInBounds, Array.size_setIfInBounds]
    by_cases e5 : 63 = t
    · subst e5; rw [if_pos rfl, if_pos (by omega)]; exact h4 5 (by omega)
    rw [if_neg e5]
    by_cases e4 : 60 = t
    · subst e4; rw [if_pos rfl, if_pos (by omega)]; exact h4 4 (by omega)
    rw [if_neg e4]
    by_cases e3 : 58 = t
    · subst e3; rw [if_pos rfl, if_pos (by omega)]; exact h4 3 (by omega)
    rw [if_neg e3]
    by_cases e2 : 56 = t
    · subst e2; rw [if_pos rfl, if_pos (by omega)]; exact h4 2 (by omega)
    rw [if_neg e2]
    by_cases e1 : 54 = t
    · subst e1; rw [if_pos rfl, if_pos (by omega)]; exact h4 1 (by omega)
    rw [if_neg e1]
    by_cases e0 : 52 = t
    · subst e0; rw [if_pos rfl, if_pos (by omega)]; exact h4 0 (by omega)
    rw [if_neg e0]
    refine h3 t (fun j hj _ => ?_)
    match j, hj with
    | 0, _ => exact fun e => e0 e.symm
    | 1, _ => exact fun e => e1 e.symm
    | 2, _ => exact fun e => e2 e.symm
    | 3, _ => exact fun e => e3 e.symm
    | 4, _ => exact fun e => e4 e.symm
    | 5, _ => exact fun e => e5 e.symm
  cases hp : puts a0 bl ns with
  | mk tm' df' =>
    rw [hp] at hd ht
    simp only at hd ht
    rw [ht, hd, h1]

theorem six_makes (hready : ∀ b0 b1 b2 b3 b4 b5 : Bool, Region.ready md ops (L6 b0 b1 b2 b3 b4 b5) = rdy6 b0 b1 b2 b3 b4 b5)
    (hops : ∀ j, j < 6 → ∃ o, ops[ix j]? = some o ∧ o.guard = none ∧ o.op = Op.makeSlice 26 (.tmp (ss j)) (.tmp (ss j)) ∧ o.dst = some (ds j))
    (ti : TypeInfo) (ht : P.underlying 26 = some (.slice 21)) (hi : P.info? 21 = some ti) (hz : ti.zero = some (.int .i32 0)) (hsize : ti.size = 1) (hby : ti.bytes = 4)
    (ns : Nat → Nat) (hns : ∀ j, j < 6 → ns j ≤ 100000) (a0 : Act) (h64 : 64 ≤ a0.tmps.size) (hev : ∀ j, j < 6 → a0.eval (.tmp (ss j)) = .int .i64 (ns j)) (w0 : World)
    (hK : ∀ bl w', Six w0 w' (fun _ => true) bl ns → wpAny P md ops Q 3 (L6 true true true true true true) (puts a0 bl ns) w') :
    wpAny P md ops Q 9 (L6 false false false false false false) a0 w0 := by
  have key : ∀ c bs bl a w, cnt bs = c → Inv a0 a bs bl ns → Six w0 w bs bl ns → wpAny P md ops Q (c + 3) (mkL bs) a w := by
    intro c
    induction c with
    | zero =>
      intro bs bl a w hc hI hS
      obtain ⟨h0, h1, h2, h3, h4, h5⟩ := cnt6_zero _ _ _ _ _ _ hc
      have hall : ∀ j, j < 6 → bs j = true := by
        intro j hj
        match j, hj with
        | 0, _ => exact h0
        | 1, _ => exact h1
        | 2, _ => exact h2
        | 3, _ => exact h3
        | 4, _ => exact h4
        | 5, _ => exact h5
      rw [hI.whole h64 hall]
      have hm : mkL bs = L6 true true true true true true := by unfold mkL; rw [h0, h1, h2, h3, h4, h5]
      rw [hm]
      exact hK bl w ⟨fun j hj _ => hS.row j hj (hall j hj), fun j hj _ => hS.ge j hj (hall j hj), fun i j hi hj _ _ => hS.ne i j hi hj (hall i hi) (hall j hj), hS.bel⟩
    | succ c ih =>
      intro bs bl a w hc hI hS
      rw [show c + 1 + 3 = (c + 3) + 1 from by omega]
      refine wpAny_all (hready _ _ _ _ _ _) (rdy6_ne _ _ _ _ _ _) ?_
      intro i hi'
      obtain ⟨j, hj, rfl, hb⟩ := mem_rdy bs (by omega) i hi'
      obtain ⟨o, ho, hg, hop, hdst⟩ := hops j hj
      have hl : a.eval (.tmp (ss j)) = .int .i64 (ns j) := by
        rw [← hev j hj]
        have := hI.old (ss j) (fun i hi _ => ss_ds j hj i hi)
        simp [Act.eval, Array.getD_eq_getD_getElem?, this]
      have hn := hns j hj
      refine wpOp_make ho hg _ 26 hop 21 ti (.int .i32 0) ht hi hz hsize rfl (ns j) hl (by rw [hby]; omega) (by omega) ?_
      show wpAny P md ops Q (c + 3) ((mkL bs).setIfInBounds (ix j) true) _ _
      rw [mkL_set bs j hj, hdst]
      exact ih _ _ _ _ (by have := cnt_set bs j hj hb; omega) (hI.step h64 j _ hj hb) (hS.step j hb)
  exact key 6 (fun _ => false) (fun _ => 0) a0 w0 rfl ⟨rfl, rfl, fun _ _ => rfl, fun _ _ h => (Bool.noConfusion h)⟩ ⟨fun _ _ h => (Bool.noConfusion h), fun _ _ h => (Bool.noConfusion h), fun _ _ _ _ h => (Bool.noConfusion h), Below.refl _ _⟩

end
end Go.Proofs.Ybulkcfaq.Sets
