/-
  LawS4052AScript: the whole pipe; what each operation of the script does to it; the model's own lists.
-/
import Derived.Test.YbulkcewwFlush
import Derived.Test.YbulkcewwEq
import Derived.Test.YbulkcewwNew
namespace Go.Proofs.Ybulkceww.Pipe
open Go.RowKit
set_option linter.unusedVariables false
set_option maxRecDepth 100000

def ifc (R : Nat) : Value := .iface 26 (.pointer (some ⟨R, 0, none⟩))

/-- The pipe, its ends, the receivers. -/
structure GM (ρ : Nat → Nat) (w : World) (P A B RA RB : Nat) (iv : Value) (md : ByteArray) (hv hb lA lB : Value) (HL TA TB : List Int) : Prop where
  fr : Fresh ρ w
  p : Pip ρ w P 0 0 iv (0 : Nat) false
  q : QS ρ w iv 0 []
  a : EndS ρ w 2 A P B (ifc RA) (.string md) hv
  b : EndS ρ w 3 B P A (ifc RB) (.string dS) hb
  ra : Rcv ρ w 4 RA lA
  rb : Rcv ρ w 5 RB lB
  h : VL ρ w 7 hv HL
  ta : VL ρ w 10 lA TA
  tb : VL ρ w 8 lB TB
  h14 : VL ρ w 14 hb []

def Sm : Nat → Prop := fun r => r = 1 ∨ r = 2 ∨ r = 3 ∨ r = 4 ∨ r = 5 ∨ r = 6 ∨ r = 7 ∨ r = 8 ∨ r = 10 ∨ r = 14

theorem apartA : Apart 2 7 3 5 8 := by constructor <;> decide
theorem apartB : Apart 3 14 2 4 10 := by constructor <;> decide
theorem ssA : ∀ r, Ss 2 7 5 8 r → Sm r := by unfold Ss Sm; intro r h; omega
theorem ssB : ∀ r, Ss 3 14 4 10 r → Sm r := by unfold Ss Sm; intro r h; omega

section
variable {ρ ρ' : Nat → Nat} {w w' : World} {P A B RA RB : Nat} {iv iv' : Value} {md md' : ByteArray} {hv hv' hb hb' lA lB lA' lB' : Value} {HL HL' TA TA' TB TB' : List Int}

theorem GM.sjA (g : GM ρ w P A B RA RB iv md hv hb lA lB HL TA TB) : SJ ρ w P A B RB 2 7 3 5 8 (ifc RA) (.string dS) hb 0 iv [] (.string md) hv HL lB TB :=
  ⟨g.fr, g.p, g.q, g.b, g.rb, g.tb, (fun _ h => by cases h), g.a, g.h⟩
theorem GM.sjB (g : GM ρ w P A B RA RB iv md hv hb lA lB HL TA TB) : SJ ρ w P B A RA 3 14 2 4 10 (ifc RB) (.string md) hv 0 iv [] (.string dS) hb [] lA TA :=
  ⟨g.fr, g.p, g.q, g.a, g.ra, g.ta, (fun _ h => by cases h), g.b, g.h14⟩
theorem GM.ofA (g : GM ρ w P A B RA RB iv md hv hb lA lB HL TA TB) (u : Upd (Ss 2 7 5 8) ρ w ρ' w') (j : SJ ρ' w' P A B RB 2 7 3 5 8 (ifc RA) (.string dS) hb 0 iv' [] (.string md') hv' HL' lB' TB') : GM ρ' w' P A B RA RB iv' md' hv' hb lA lB' HL' TA TB' :=
  ⟨j.fr, j.p, j.q, j.x, j.y, g.ra.keep u (by unfold Ss; decide), j.r, j.h, g.ta.keep u (by unfold Ss; decide) (by unfold Ss; decide), j.l, g.h14.keep u (by unfold Ss; decide) (by unfold Ss; decide)⟩
theorem GM.ofB (g : GM ρ w P A B RA RB iv md hv hb lA lB HL TA TB) (u : Upd (Ss 3 14 4 10) ρ w ρ' w') (j : SJ ρ' w' P B A RA 3 14 2 4 10 (ifc RB) (.string md) hv 0 iv' [] (.string dS) hb' [] lA' TA') : GM ρ' w' P A B RA RB iv' md hv hb' lA' lB HL TA' TB :=
  ⟨j.fr, j.p, j.q, j.y, j.x, j.r, g.rb.keep u (by unfold Ss; decide), g.h.keep u (by unfold Ss; decide) (by unfold Ss; decide), j.l, g.tb.keep u (by unfold Ss; decide) (by unfold Ss; decide), j.h⟩
theorem GM.kept {S : Nat → Prop} (g : GM ρ w P A B RA RB iv md hv hb lA lB HL TA TB) (u : Upd S ρ w ρ' w') (hS : ∀ r, S r → ¬ (Sm r ∨ r = 9)) : GM ρ' w' P A B RA RB iv md hv hb lA lB HL TA TB := by
  have n : ∀ r, (Sm r ∨ r = 9) → ¬ S r := fun r h1 h2 => hS r h2 h1
  have m : ∀ r, Sm r → ¬ S r := fun r h => n r (Or.inl h)
  have n9 : ¬ S 9 := n 9 (Or.inr rfl)
  exact ⟨u.fresh, g.p.keep u (m 1 (by unfold Sm; decide)), g.q.keep u (m 6 (by unfold Sm; decide)), g.a.keep u (m 2 (by unfold Sm; decide)), g.b.keep u (m 3 (by unfold Sm; decide)), g.ra.keep u (m 4 (by unfold Sm; decide)), g.rb.keep u (m 5 (by unfold Sm; decide)),
    g.h.keep u (m 7 (by unfold Sm; decide)) n9, g.ta.keep u (m 10 (by unfold Sm; decide)) n9, g.tb.keep u (m 8 (by unfold Sm; decide)) n9, g.h14.keep u (m 14 (by unfold Sm; decide)) n9⟩

theorem op_sendA {b c : Nat} {x : Int} (g : GM ρ w P A B RA RB iv md hv hb lA lB HL TA TB) (hm : Msu ρ w b x) (hl : TB.length ≤ 40000) (hl2 : HL.length ≤ 40000) (hmd : md = dS ∨ md = hS ∨ md = pS) :
    Calls Yba.prog 9 #[.pointer (some ⟨A, 0, none⟩), .slice (some ⟨b, 0, none⟩) 1 c] w fun e w' => e = .returned (.tuple #[]) ∧ ∃ ρ' iv' hv' lB', GM ρ' w' P A B RA RB iv' md hv' hb lA lB' (HL ++ heldL md x) TA (TB ++ outL md x) ∧ Upd Sm ρ w ρ' w' := by
  refine (send_any ρ w P A B RB 2 7 3 5 8 b c x _ _ _ iv md hv HL lB TB apartA g.sjA hm hl hl2 hmd).mono ?_
  rintro e w' ⟨rfl, ρ', iv', hv', lB', j, u⟩
  exact ⟨rfl, ρ', iv', hv', lB', g.ofA u j, u.mono ssA⟩

theorem op_sendB {b c : Nat} {x : Int} (g : GM ρ w P A B RA RB iv md hv hb lA lB HL TA TB) (hm : Msu ρ w b x) (hl : TA.length ≤ 40000) :
    Calls Yba.prog 9 #[.pointer (some ⟨B, 0, none⟩), .slice (some ⟨b, 0, none⟩) 1 c] w fun e w' => e = .returned (.tuple #[]) ∧ ∃ ρ' iv' hb' lA', GM ρ' w' P A B RA RB iv' md hv hb' lA' lB HL (TA ++ [x]) TB ∧ Upd Sm ρ w ρ' w' := by
  refine (send_any ρ w P B A RA 3 14 2 4 10 b c x _ _ _ iv dS hb [] lA TA apartB g.sjB hm hl (by simp) (Or.inl rfl)).mono ?_
  rintro e w' ⟨rfl, ρ', iv', hb', lA', j, u⟩
  rw [show heldL dS x = [] from if_neg (by decide), show outL dS x = [x] from if_pos rfl, List.append_nil] at j
  exact ⟨rfl, ρ', iv', hb', lA', g.ofB u j, u.mono ssB⟩

theorem op_flush (g : GM ρ w P A B RA RB iv md hv hb lA lB HL TA TB) (hl : TB.length ≤ 20000) (hl2 : HL.length ≤ 20000) :
    Calls Yba.prog 8 #[.pointer (some ⟨A, 0, none⟩)] w fun e w' => e = .returned (.tuple #[]) ∧ ∃ ρ' iv' lB', GM ρ' w' P A B RA RB iv' dS (.slice none 0 0) hb lA lB' [] TA (TB ++ HL) ∧ Upd Sm ρ w ρ' w' := by
  refine (flush_any ρ w P A B RB 2 7 3 5 8 _ _ _ iv (.string md) hv HL lB TB apartA g.sjA hl hl2).mono ?_
  rintro e w' ⟨rfl, ρ', iv', lB', j, u⟩
  exact ⟨rfl, ρ', iv', lB', g.ofA u j, u.mono ssA⟩

theorem GM.mode (g : GM ρ w P A B RA RB iv md hv hb lA lB HL TA TB) (u : Upd (fun r => r = 1 ∨ r = 2) ρ w ρ w') (p : Pip ρ w' P 0 0 iv (0 : Nat) false) (a : EndS ρ w' 2 A P B (ifc RA) (.string md') hv) : GM ρ w' P A B RA RB iv md' hv hb lA lB HL TA TB :=
  ⟨u.fresh, p, g.q.keep u (by decide), a, g.b.keep u (by decide), g.ra.keep u (by decide), g.rb.keep u (by decide), g.h.keep u (by decide) (by decide), g.ta.keep u (by decide) (by decide), g.tb.keep u (by decide) (by decide), g.h14.keep u (by decide) (by decide)⟩

theorem op_hold (g : GM ρ w P A B RA RB iv md hv hb lA lB HL TA TB) :
    Calls Yba.prog 7 #[.pointer (some ⟨A, 0, none⟩)] w fun e w' => e = .returned (.tuple #[]) ∧ GM ρ w' P A B RA RB iv hS hv hb lA lB HL TA TB ∧ Upd Sm ρ w ρ w' := by
  refine (hold_any ρ w P A B 2 0 iv (0 : Nat) false _ _ hv g.fr g.p g.a (by decide)).mono ?_
  rintro e w' ⟨rfl, p, a, u⟩
  exact ⟨rfl, g.mode u p a, u.mono (fun r h => h.elim Or.inl (fun h => Or.inr (Or.inl h)))⟩
theorem op_drop (g : GM ρ w P A B RA RB iv md hv hb lA lB HL TA TB) :
    Calls Yba.prog 6 #[.pointer (some ⟨A, 0, none⟩)] w fun e w' => e = .returned (.tuple #[]) ∧ GM ρ w' P A B RA RB iv pS hv hb lA lB HL TA TB ∧ Upd Sm ρ w ρ w' := by
  refine (drop_any ρ w P A B 2 0 iv (0 : Nat) false _ _ hv g.fr g.p g.a (by decide)).mono ?_
  rintro e w' ⟨rfl, p, a, u⟩
  exact ⟨rfl, g.mode u p a, u.mono (fun r h => h.elim Or.inl (fun h => Or.inr (Or.inl h)))⟩

/-- The model's three lists. -/
structure GV (ρ : Nat → Nat) (w : World) (vh vb va : Value) (HL TB TA : List Int) : Prop where
  h : VL ρ w 11 vh HL
  b : VL ρ w 12 vb TB
  a : VL ρ w 13 va TA

theorem GV.kept {S : Nat → Prop} {vh vb va : Value} (g : GV ρ w vh vb va HL TB TA) (u : Upd S ρ w ρ' w') (h11 : ¬ S 11) (h12 : ¬ S 12) (h13 : ¬ S 13) (h9 : ¬ S 9) : GV ρ' w' vh vb va HL TB TA :=
  ⟨g.h.keep u h11 h9, g.b.keep u h12 h9, g.a.keep u h13 h9⟩

/-- A new MSU of one byte. -/
theorem msu_made (hf : Fresh ρ w) (x : Int) : ∃ ρ', Upd (fun _ => False) ρ w ρ' (w.alloc (.cells #[.int .u8 x] 5)) ∧ Msu ρ' (w.alloc (.cells #[.int .u8 x] 5)) w.heap.size x :=
  ⟨updR ρ w.heap.size 9, (Upd.refl hf).allocR _ 9, by simp [updR], by simp⟩

/-- The model's list grows by a new MSU. -/
theorem model_app {r : Nat} {v v' : Value} {L : List Int} {x : Int} {xs : List Value} (hf : Fresh ρ w) (hr9 : r ≠ 9) (ho : w.ownsRow 0 35 1 v L.length xs) (hxl : xs.length = L.length) (hk : ∀ k, v.ownBlock = some k → ρ k = r)
    (hx : ∀ i, i < L.length → ∃ b c, xs[i]? = some (.slice (some ⟨b, 0, none⟩) 1 c) ∧ Msu ρ w b (L.getD i 0)) (o : Obj)
    (hO : w'.ownsRow 0 35 1 v' (L.length + 1) (xs ++ [.slice (some ⟨w.heap.size, 0, none⟩) 1 1])) (hg : ((w.alloc (.cells #[.int .u8 x] 5)).alloc o).grownBy w' v.ownBlock) (hbk : v'.ownBlock = v.ownBlock ∨ v'.ownBlock = some ((w.alloc (.cells #[.int .u8 x] 5)).alloc o).heap.size) :
    ∃ ρ', VL ρ' w' r v' (L ++ [x]) ∧ Upd (fun q => q = r) ρ w ρ' w' := by
  obtain ⟨ρa, ua, ma⟩ := msu_made hf x
  have ub : Upd (fun _ => False) ρ w ρa ((w.alloc (.cells #[.int .u8 x] 5)).alloc o) := ua.alloc o
  have mb : Msu ρa ((w.alloc (.cells #[.int .u8 x] 5)).alloc o) w.heap.size x := ma.keep ((Upd.refl (S := fun _ => False) ua.fresh).alloc o) (fun h => h)
  obtain ⟨ρ', hv, u⟩ := VL.appended (L := L) (L2 := [x]) (r := r) ub.fresh hr9 (fun k e => (ub.role k (owns_lt ho e)).trans (hk k e)) (fun i hi => by
    obtain ⟨b, c, e1, e2⟩ := hx i hi
    exact ⟨b, c, e1, e2.keep ub (fun h => h)⟩) (cells_one_msu mb) hxl hO hg hbk
  exact ⟨ρ', hv, (ub.mono (fun _ h => h.elim)).trans u⟩
end

/-- append(s, nil...): the slice as it was. -/
theorem wpList_append_nothing {P : Program} {w : World} {ops : Array Oper} {rest : List Oper} {o : Oper} {a : Act} {Q : Exit → Act → World → Prop} (hgd : o.guard = none) (s x : Operand) (t : TypeId)
    (ho : o.op = .call { callee := .builtin .append, args := #[s, x], argTypes := #[t, t] }) (e : TypeId) (i : TypeInfo) (ht : P.underlying t = some (.slice e)) (hi : P.info? e = some i)
    (base : Option Addr) (sLen sCap : Nat) (hs : a.eval s = .slice base sLen sCap) (hle : sLen ≤ sCap) (hx : a.eval x = .slice none 0 0)
    (h : wpList P ops Q rest (a.put o.dst (.slice base sLen sCap)) w) : wpList P ops Q (o :: rest) a w := by
  refine wpList_plain hgd fun K hK => ?_
  have hr : (Builtin.append_ #[t, t] o.type #[.slice base sLen sCap, .slice none 0 0]).run P w = .ok (.slice base sLen sCap) w := by
    cases base <;> simp [Builtin.append_, run_underlying ht, sizeOf, typeInfo, hi, Builtin.lenOf, Builtin.firstCells, hle, storeCells]
  unfold Oper.wp execOp
  simp only [ho, resolve, invoke, builtin, Sem.run_bind, Sem.run_pure, Result.andThen_ok, List.map_toArray, List.map_cons, List.map_nil, hs, hx, hr]
  exact hK _ _ h
end Go.Proofs.Ybulkceww.Pipe
