/-
  LawS4052AScript: drain.
-/
import Derived.Test.YbulkcewwPop
namespace Go.Proofs.Ybulkceww.Pipe
open Go.RowKit
set_option linter.unusedVariables false
set_option maxRecDepth 100000

theorem drain1_d (bm bo : Nat) (u : FrameMode) (w : World) (h : w.cell? ⟨bm, 0, none⟩ = some (.bool true)) :
    CallsD Yba.prog 19 #[.pointer (some ⟨bm, 0, none⟩), .pointer (some ⟨bo, 0, none⟩)] u w fun e u' w' => u' = u ∧ (e = .returned (.tuple #[]) ∧ w' = w) := by
  go_enter_d Yba.func19, Yba.ntmps19
  go_wp2
  go_end0
  exact ⟨rfl, rfl⟩

/-- An entry of the queue: block, capacity, byte. -/
def ent (E : Nat) (m : Nat × Nat × Int) : Value × Value := (.pointer (some ⟨E, 0, none⟩), .slice (some ⟨m.1, 0, none⟩) 1 m.2.1)
def bytes (ms : List (Nat × Nat × Int)) : List Int := ms.map (fun m => m.2.2)

/-- What drain works on. -/
structure DS (ρ : Nat → Nat) (w : World) (P E R PP peer rE rR rl : Nat) (md hv : Value) (m1 : Int) (dl : Bool) (iv : Value) (nx : Nat) (ms : List (Nat × Nat × Int)) (lv : Value) (L : List Int) : Prop where
  fr : Fresh ρ w
  p : Pip ρ w P 0 m1 iv nx dl
  q : QS ρ w iv nx (ms.map (ent E))
  e : EndS ρ w rE E PP peer (.iface 26 (.pointer (some ⟨R, 0, none⟩))) md hv
  r : Rcv ρ w rR R lv
  l : VL ρ w rl lv L
  m : ∀ x ∈ ms, Msu ρ w x.1 x.2.2

def Sd (rR rl : Nat) : Nat → Prop := fun r => r = 1 ∨ r = 6 ∨ r = rR ∨ r = rl

section
variable {ρ ρ' : Nat → Nat} {w w' : World} {P E R PP peer rE rR rl : Nat} {md hv : Value} {m1 : Int} {dl : Bool} {iv : Value} {nx : Nat} {ms : List (Nat × Nat × Int)} {lv : Value} {L : List Int}

/-- A step that touches the pipe alone. -/
theorem DS.pipe {m1' : Int} {dl' : Bool} (h : DS ρ w P E R PP peer rE rR rl md hv m1 dl iv nx ms lv L) (hE1 : rE ≠ 1) (hR1 : rR ≠ 1) (hl1 : rl ≠ 1) (u : Upd (fun r => r = 1) ρ w ρ w') (p : Pip ρ w' P 0 m1' iv nx dl') : DS ρ w' P E R PP peer rE rR rl md hv m1' dl' iv nx ms lv L :=
  ⟨u.fresh, p, h.q.keep u (by decide), h.e.keep u (by simpa using hE1), h.r.keep u (by simpa using hR1), h.l.keep u (by simpa using hl1) (by decide), fun x hx => (h.m x hx).keep u (by decide)⟩
/-- A step that touches none of it. -/
theorem DS.none (h : DS ρ w P E R PP peer rE rR rl md hv m1 dl iv nx ms lv L) (u : Upd (fun _ => False) ρ w ρ w') : DS ρ w' P E R PP peer rE rR rl md hv m1 dl iv nx ms lv L :=
  ⟨u.fresh, h.p.keep u (fun h => h), h.q.keep u (fun h => h), h.e.keep u (fun h => h), h.r.keep u (fun h => h), h.l.keep u (fun h => h) (fun h => h), fun x hx => (h.m x hx).keep u (fun h => h)⟩
theorem DS.popped {x : Nat × Nat × Int} {iv' : Value} {nx' : Nat} (h : DS ρ w P E R PP peer rE rR rl md hv m1 dl iv nx (x :: ms) lv L) (hE1 : rE ≠ 1) (hR1 : rR ≠ 1) (hl1 : rl ≠ 1) (hE6 : rE ≠ 6) (hR6 : rR ≠ 6) (hl6 : rl ≠ 6)
    (u : Upd S16 ρ w ρ w') (p : Pip ρ w' P 0 m1 iv' nx' dl) (q : QS ρ w' iv' nx' (ms.map (ent E))) : DS ρ w' P E R PP peer rE rR rl md hv m1 dl iv' nx' ms lv L ∧ Msu ρ w' x.1 x.2.2 :=
  ⟨⟨u.fresh, p, q, h.e.keep u (fun h => h.elim hE1 hE6), h.r.keep u (fun h => h.elim hR1 hR6), h.l.keep u (fun h => h.elim hl1 hl6) (by unfold S16; decide), fun y hy => (h.m y (List.mem_cons_of_mem _ hy)).keep u (by unfold S16; decide)⟩, (h.m x List.mem_cons_self).keep u (by unfold S16; decide)⟩

theorem DS.delivered {x : Int} {lv' : Value} (h : DS ρ w P E R PP peer rE rR rl md hv m1 dl iv nx ms lv L) (hE1 : rE ≠ 1) (hR6 : rR ≠ 6) (hl6 : rl ≠ 6) (hR9 : rR ≠ 9) (hl9 : rl ≠ 9) (hER : rE ≠ rR) (hEl : rE ≠ rl)
    (u : Upd (fun r => r = 1 ∨ r = rR ∨ r = rl) ρ w ρ' w') (p : Pip ρ' w' P 0 m1 iv nx dl) (r : Rcv ρ' w' rR R lv') (l : VL ρ' w' rl lv' (L ++ [x])) : DS ρ' w' P E R PP peer rE rR rl md hv m1 dl iv nx ms lv' (L ++ [x]) :=
  ⟨u.fresh, p, h.q.keep u (fun h => h.elim (by decide) (fun h => h.elim (fun e => hR6 e.symm) (fun e => hl6 e.symm))), h.e.keep u (fun h => h.elim hE1 (fun h => h.elim hER hEl)), r, l,
    fun y hy => (h.m y hy).keep u (fun h => h.elim (by decide) (fun h => h.elim (fun e => hR9 e.symm) (fun e => hl9 e.symm)))⟩

/-- A step that touches blocks without a role. -/
theorem DS.zero (h : DS ρ w P E R PP peer rE rR rl md hv m1 dl iv nx ms lv L) (hE0 : rE ≠ 0) (hR0 : rR ≠ 0) (hl0 : rl ≠ 0) (u : Upd (fun r => r = 0) ρ w ρ w') : DS ρ w' P E R PP peer rE rR rl md hv m1 dl iv nx ms lv L :=
  ⟨u.fresh, h.p.keep u (by decide), h.q.keep u (by decide), h.e.keep u (by simpa using hE0), h.r.keep u (by simpa using hR0), h.l.keep u (by simpa using hl0) (by decide), fun x hx => (h.m x hx).keep u (by decide)⟩

theorem qs_shape {v : Value} {qs : List (Value × Value)} (h : QS ρ w v nx qs) : ∃ a cap, v = .slice a (nx + qs.length) cap := by
  obtain ⟨xs, ho, _, _⟩ := h
  rcases ho.2 with ⟨h1, h2⟩ | ⟨g, cap, cur, hv, _⟩
  · exact ⟨none, 0, by rw [h1, h2]⟩
  · exact ⟨_, cap, hv⟩
theorem qs_shape1 {v : Value} {q : Value × Value} {qs : List (Value × Value)} (h : QS ρ w v nx (q :: qs)) : ∃ g cap, v = .slice (some ⟨g, 0, none⟩) (nx + (qs.length + 1)) cap := by
  obtain ⟨xs, ho, _, _⟩ := h
  rcases ho.2 with ⟨h1, h2⟩ | ⟨g, cap, cur, hv, _⟩
  · simp at h2
  · exact ⟨g, cap, hv⟩
theorem ent_one (ms : List (Nat × Nat × Int)) : ∀ m ∈ ms.map (ent E), m.1.oneCell' = true ∧ m.2.oneCell' = true := by
  intro m hm
  obtain ⟨x, _, rfl⟩ := List.mem_map.1 hm
  exact ⟨rfl, rfl⟩
end

/-- The loop's state behind i items. -/
structure DI (ρ : Nat → Nat) (w wr : World) (P E R PP peer rE rR rl bm : Nat) (md hv : Value) (ms : List (Nat × Nat × Int)) (L : List Int) (i : Nat) (ρr : Nat → Nat) (iv : Value) (nx : Nat) (lv : Value) : Prop where
  d : DS ρr wr P E R PP peer rE rR rl md hv 0 true iv nx (ms.drop i) lv (L ++ bytes (ms.take i))
  hn : nx ≤ i
  z : ms.drop i = [] → nx = 0
  u : Upd (Sd rR rl) ρ w ρr wr
  o : wr.cell? ⟨w.heap.size, 0, none⟩ = some (.pointer (some ⟨P, 2, none⟩))
  b : wr.rowIs bm 4 1 (fun _ => .bool false)
  rb : ρr bm = 0
  ro : ρr w.heap.size = 0
  lt : w.heap.size < bm

set_option maxHeartbeats 4000000 in
theorem drain_any (ρ : Nat → Nat) (w : World) (P E R PP peer rE rR rl : Nat) (md hv : Value) (iv : Value) (ms : List (Nat × Nat × Int)) (lv : Value) (L : List Int)
    (h : DS ρ w P E R PP peer rE rR rl md hv 0 false iv 0 ms lv L) (hlen : L.length + ms.length ≤ 50000)
    (hne : rR ≠ rl) (hl9 : rl ≠ 9) (hR9 : rR ≠ 9) (hE1 : rE ≠ 1) (hR1 : rR ≠ 1) (hl1 : rl ≠ 1) (hE6 : rE ≠ 6) (hR6 : rR ≠ 6) (hl6 : rl ≠ 6) (hER : rE ≠ rR) (hEl : rE ≠ rl) (hE0 : rE ≠ 0) (hR0 : rR ≠ 0) (hl0 : rl ≠ 0) :
    Calls Yba.prog 14 #[.pointer (some ⟨P, 2, none⟩), .func (.func 15) #[.pointer (some ⟨P, 0, none⟩)] #[]] w fun e w' => e = .returned (.tuple #[]) ∧
      ∃ ρ' iv' lv', DS ρ' w' P E R PP peer rE rR rl md hv 0 false iv' 0 [] lv' (L ++ bytes ms) ∧ Upd (Sd rR rl) ρ w ρ' w' := by
  have HD : Hid (DS ρ w P E R PP peer rE rR rl md hv 0 false iv 0 ms lv L) := h
  have hr0 : ρ w.heap.size = 0 := h.fr _ (Nat.le_refl _)
  have HR0 : Hid (ρ w.heap.size = 0) := hr0
  clear h hr0
  have hmf : ∀ (fn : Fn) (first cap : Array Value) (w : World), (Instr.makeFunc fn first cap).run Yba.prog w = .ok (.func fn first cap) w := fun _ _ _ _ => rfl
  go_enter_defers Yba.func14, Yba.ntmps14
  go_upto_region 1 with fail
  have D1 : Hid (DS ρ (w.alloc (.cells #[.pointer (some ⟨P, 2, none⟩)] 62)) P E R PP peer rE rR rl md hv 0 false iv 0 ms lv L) := HD.out.none ((Upd.refl HD.out.fr).alloc _)
  have U1 : Hid (Upd (Sd rR rl) ρ w ρ (w.alloc (.cells #[.pointer (some ⟨P, 2, none⟩)] 62))) := (Upd.refl HD.out.fr).alloc _
  have b1 : (w.alloc (.cells #[.pointer (some ⟨P, 2, none⟩)] 62)).cell? ⟨w.heap.size, 0, none⟩ = some (.pointer (some ⟨P, 2, none⟩)) := by simp
  generalize w.alloc (.cells #[.pointer (some ⟨P, 2, none⟩)] 62) = w1 at *
  go_upto_region 2 with (go_at_call 11; refine (lock2 D1.out.fr D1.out.p).mono ?_; rintro e w2 ⟨rfl, p2, u2⟩)
  have D2 : Hid (DS ρ w2 P E R PP peer rE rR rl md hv 1 false iv 0 ms lv L) := D1.out.pipe hE1 hR1 hl1 u2 p2
  have U2 : Hid (Upd (Sd rR rl) ρ w ρ w2) := U1.out.trans (u2.mono (fun r h => Or.inl h))
  have b2 : w2.cell? ⟨w.heap.size, 0, none⟩ = some (.pointer (some ⟨P, 2, none⟩)) := u2.cell b1 (by rw [HR0.out]; decide)
  clear p2 u2 b1 D1 U1
  have c6 : w2.cell? ⟨P, 6, none⟩ = some (.bool false) := D2.out.p.2.cell (by omega)
  have f6 : w2.frozen? ⟨P, 6, none⟩ = false := D2.out.p.2.frozen 6
  go_upto_region 5 with fail
  have u4 : Upd (fun r => r = 1) ρ w2 ρ (w2.setCell ⟨P, 6, none⟩ (.bool true)) := (Upd.refl D2.out.fr).set _ (Or.inr D2.out.p.1)
  have D4 : Hid (DS ρ (w2.setCell ⟨P, 6, none⟩ (.bool true)) P E R PP peer rE rR rl md hv 1 true iv 0 ms lv L) := D2.out.pipe hE1 hR1 hl1 u4 (D2.out.p.set6 true)
  have U4 : Hid (Upd (Sd rR rl) ρ w ρ (w2.setCell ⟨P, 6, none⟩ (.bool true))) := U2.out.trans (u4.mono (fun r h => Or.inl h))
  have b4 : (w2.setCell ⟨P, 6, none⟩ (.bool true)).cell? ⟨w.heap.size, 0, none⟩ = some (.pointer (some ⟨P, 2, none⟩)) := u4.cell b2 (by rw [HR0.out]; decide)
  clear u4 b2 D2 U2 c6 f6
  generalize w2.setCell ⟨P, 6, none⟩ (.bool true) = w4 at *
  go_upto_region 6 with (go_at_call 12; refine (unlock2 D4.out.fr D4.out.p).mono ?_; rintro e w5 ⟨rfl, p5, u5⟩)
  have D5 : Hid (DS ρ w5 P E R PP peer rE rR rl md hv 0 true iv 0 ms lv L) := D4.out.pipe hE1 hR1 hl1 u5 p5
  have U5 : Hid (Upd (Sd rR rl) ρ w ρ w5) := U4.out.trans (u5.mono (fun r h => Or.inl h))
  have b5 : w5.cell? ⟨w.heap.size, 0, none⟩ = some (.pointer (some ⟨P, 2, none⟩)) := u5.cell b4 (by rw [HR0.out]; decide)
  clear p5 u5 b4 D4 U4
  go_wp2_with fail
  have DI0 : Hid (DI ρ w (w5.alloc (.cells #[.bool false] 4)) P E R PP peer rE rR rl w5.heap.size md hv ms L 0 ρ iv 0 lv) := {
    d := by rw [List.drop_zero, List.take_zero, show bytes [] = [] from rfl, List.append_nil]; exact D5.out.none ((Upd.refl D5.out.fr).alloc _)
    hn := Nat.le_refl _, z := fun _ => rfl, u := U5.out.alloc _, o := ((Upd.refl (S := fun _ => False) D5.out.fr).alloc _).cell b5 (fun h => h)
    b := World.rowIs_alloc w5 #[.bool false] 4 _ (fun i hi => by match i, hi with | 0, _ => rfl), rb := D5.out.fr _ (Nat.le_refl _), ro := HR0.out, lt := World.block_lt_of_cell? _ _ b5 }
  obtain ⟨bm, hbm⟩ : ∃ bm, bm = w5.heap.size := ⟨_, rfl⟩
  rw [← hbm] at DI0 ⊢
  clear hbm D5 U5 b5 HD
  generalize w5.alloc (.cells #[.bool false] 4) = w6 at *
  have hmeth : True := trivial
  go_loopg [] ms.length (fun gk wr => ∃ i : Nat, i ≤ ms.length ∧ gk = ms.length - i ∧ ∃ ρr ivr nx lvr, Hid (DI ρ w wr P E R PP peer rE rR rl bm md hv ms L i ρr ivr nx lvr))
  case atStart => exact ⟨0, Nat.zero_le _, rfl, ρ, iv, 0, lv, DI0⟩
  case round =>
    clear DI0
    obtain ⟨i, hi, rfl, ρr, ivr, nx, lvr, HI⟩ := hrel
    have b0 : wr.cell? ⟨w.heap.size, 0, none⟩ = some (.pointer (some ⟨P, 2, none⟩)) := HI.out.o
    go_upto_region 9 with (go_at_call 11; refine (lock2 HI.out.d.fr HI.out.d.p).mono ?_; rintro e w2 ⟨rfl, p2, u2⟩)
    have D2 : Hid (DS ρr w2 P E R PP peer rE rR rl md hv 1 true ivr nx (ms.drop i) lvr (L ++ bytes (ms.take i))) := HI.out.d.pipe hE1 hR1 hl1 u2 p2
    have U2 : Hid (Upd (Sd rR rl) ρ w ρr w2) := HI.out.u.trans (u2.mono (fun r h => Or.inl h))
    have B2 : Hid (w2.rowIs bm 4 1 (fun _ => .bool false)) := u2.row HI.out.b (by rw [HI.out.rb]; decide)
    have b2 : w2.cell? ⟨w.heap.size, 0, none⟩ = some (.pointer (some ⟨P, 2, none⟩)) := u2.cell b0 (by rw [HI.out.ro]; decide)
    have HK : Hid (nx ≤ i ∧ (ms.drop i = [] → nx = 0) ∧ ρr bm = 0 ∧ ρr w.heap.size = 0 ∧ w.heap.size < bm) := ⟨HI.out.hn, HI.out.z, HI.out.rb, HI.out.ro, HI.out.lt⟩
    have hni : nx ≤ i := HI.out.hn
    clear p2 u2 b0 HI
    obtain ⟨k, hk⟩ : ∃ k, k = ms.length - i := ⟨_, rfl⟩
    have HKK : Hid ((ms.drop i).length = k) := by show _ = _; rw [List.length_drop, hk]
    obtain ⟨av, capv, hiv⟩ := qs_shape D2.out.q
    rw [List.length_map, HKK.out] at hiv
    have PW : Hid (Pip ρr w2 P 0 1 (.slice av (nx + k) capv) nx true) := by rw [← hiv]; exact D2.out.p
    clear hiv
    go_upto_if 34 with (go_at_call 20; refine (waiting_any ρr w2 P 0 1 av nx k capv true PW.out (by omega)).mono ?_; rintro e w3 ⟨rfl, j3, rfl⟩)
    have D3 : Hid (DS ρr (w2.drewN j3) P E R PP peer rE rR rl md hv 1 true ivr nx (ms.drop i) lvr (L ++ bytes (ms.take i))) := D2.out.none ((Upd.refl D2.out.fr).drewN j3)
    have U3 : Hid (Upd (Sd rR rl) ρ w ρr (w2.drewN j3)) := U2.out.drewN j3
    have B3 : Hid ((w2.drewN j3).rowIs bm 4 1 (fun _ => .bool false)) := B2.out.of_block (by rw [World.heap_drewN])
    have b3 : (w2.drewN j3).cell? ⟨w.heap.size, 0, none⟩ = some (.pointer (some ⟨P, 2, none⟩)) := ((Upd.refl (S := fun _ => False) D2.out.fr).drewN j3).cell b2 (fun h => h)
    clear D2 U2 B2 b2 PW
    generalize w2.drewN j3 = w3 at *
    by_cases hk0 : k = 0
    · have hke : ((k : Int) == 0) = true := by simp [hk0]
      have HK0 : Hid (k = 0) := hk0
      have c6 : w3.cell? ⟨P, 6, none⟩ = some (.bool true) := D3.out.p.2.cell (by omega)
      have f6 : w3.frozen? ⟨P, 6, none⟩ = false := D3.out.p.2.frozen 6
      clear hk0
      go_upto_region 11 with fail
      have u4 : Upd (fun r => r = 1) ρr w3 ρr (w3.setCell ⟨P, 6, none⟩ (.bool false)) := (Upd.refl D3.out.fr).set _ (Or.inr D3.out.p.1)
      have D4 : Hid (DS ρr (w3.setCell ⟨P, 6, none⟩ (.bool false)) P E R PP peer rE rR rl md hv 1 false ivr nx (ms.drop i) lvr (L ++ bytes (ms.take i))) := D3.out.pipe hE1 hR1 hl1 u4 (D3.out.p.set6 false)
      have U4 : Hid (Upd (Sd rR rl) ρ w ρr (w3.setCell ⟨P, 6, none⟩ (.bool false))) := U3.out.trans (u4.mono (fun r h => Or.inl h))
      have B4 : Hid ((w3.setCell ⟨P, 6, none⟩ (.bool false)).rowIs bm 4 1 (fun _ => .bool false)) := u4.row B3.out (by rw [HK.out.2.2.1]; decide)
      have b4 : (w3.setCell ⟨P, 6, none⟩ (.bool false)).cell? ⟨w.heap.size, 0, none⟩ = some (.pointer (some ⟨P, 2, none⟩)) := u4.cell b3 (by rw [HK.out.2.2.2.1]; decide)
      clear u4 D3 U3 B3 b3 c6 f6
      generalize w3.setCell ⟨P, 6, none⟩ (.bool false) = w4 at *
      go_upto_region 12 with (go_at_call 12; refine (unlock2 D4.out.fr D4.out.p).mono ?_; rintro e w5 ⟨rfl, p5, u5⟩)
      have D5 : Hid (DS ρr w5 P E R PP peer rE rR rl md hv 0 false ivr nx (ms.drop i) lvr (L ++ bytes (ms.take i))) := D4.out.pipe hE1 hR1 hl1 u5 p5
      have U5 : Hid (Upd (Sd rR rl) ρ w ρr w5) := U4.out.trans (u5.mono (fun r h => Or.inl h))
      have B5 : Hid (w5.rowIs bm 4 1 (fun _ => .bool false)) := u5.row B4.out (by rw [HK.out.2.2.1]; decide)
      clear p5 u5 D4 U4 B4 b4
      have cb : w5.cell? ⟨bm, 0, none⟩ = some (.bool false) := B5.out.cell (by omega)
      have fb : w5.frozen? ⟨bm, 0, none⟩ = false := B5.out.frozen 0
      go_wp2
      refine leaves_cons (f := 19) (args := #[.pointer (some ⟨bm, 0, none⟩), .pointer (some ⟨w.heap.size, 0, none⟩)]) (by simp) (by simp [go_sem]) ?_
      refine (drain1_d bm w.heap.size .returning _ (World.cell?_setCell_same _ _ _ cb)).mono ?_
      rintro x u' w9 ⟨rfl, rfl, rfl⟩
      have hnil : ms.drop i = [] := List.eq_nil_of_length_eq_zero (by rw [HKK.out, HK0.out])
      have htk : ms.take i = ms := by
        have := List.take_append_drop i ms
        rwa [hnil, List.append_nil] at this
      have hd := D5.out
      rw [hnil, htk, HK.out.2.1 hnil] at hd
      exact ⟨_, results_none rfl _ _ _, rfl, ρr, ivr, lvr, hd.zero hE0 hR0 hl0 ((Upd.refl hd.fr).set _ (Or.inr HK.out.2.2.1)), U5.out.set _ (Or.inl (Nat.le_of_lt HK.out.2.2.2.2))⟩
    · have hke : ((k : Int) == 0) = false := by simp [hk0]
      obtain ⟨x, rest, hdr⟩ : ∃ x rest, ms.drop i = x :: rest := by
        cases hq : ms.drop i with
        | nil => have := HKK.out; rw [hq] at this; exact absurd this.symm hk0
        | cons x rest => exact ⟨x, rest, rfl⟩
      have hil : i < ms.length := by
        rcases Nat.lt_or_ge i ms.length with h | h
        · exact h
        · rw [List.drop_eq_nil_of_le h] at hdr; exact absurd hdr (by simp)
      have HDR : Hid (ms.drop i = x :: rest) := hdr
      have hrl : rest.length + 1 = k := by have := HKK.out; rw [hdr] at this; simpa using this
      rw [hdr] at D3
      obtain ⟨g, capg, hiv⟩ := qs_shape1 D3.out.q
      subst hiv
      have DP := D3.out.p
      have DQ := D3.out.q
      have HPQ : Hid (Pip ρr w3 P 0 1 (.slice (some ⟨g, 0, none⟩) (nx + ((rest.map (ent E)).length + 1)) capg) nx true ∧ QS ρr w3 (.slice (some ⟨g, 0, none⟩) (nx + ((rest.map (ent E)).length + 1)) capg) nx ((.pointer (some ⟨E, 0, none⟩), .slice (some ⟨x.1, 0, none⟩) 1 x.2.1) :: rest.map (ent E))) := ⟨DP, DQ⟩
      clear DP DQ hdr
      have hll : nx + ((rest.map (ent E)).length + 1) ≤ 100000 := by rw [List.length_map, hrl]; omega
      go_upto_region 14 with (go_at_call 21; refine (pop_any ρr w3 P g capg 0 1 nx true E x.1 x.2.1 (rest.map (ent E)) D3.out.fr HPQ.out.1 HPQ.out.2 hll (ent_one rest)).mono ?_; rintro e w4 ⟨rfl, hpop⟩)
      obtain ⟨iv4, nx4, p4, q4, hn4, hz4, u4⟩ := hpop
      obtain ⟨d4, mm4⟩ := D3.out.popped hE1 hR1 hl1 hE6 hR6 hl6 u4 p4 q4
      have ua : Upd (fun _ => False) ρr w4 ρr (w4.alloc (.cells #[.pointer (some ⟨E, 0, none⟩), .slice (some ⟨x.1, 0, none⟩) 1 x.2.1] 59)) := (Upd.refl d4.fr).alloc _
      have D5 : Hid (DS ρr (w4.alloc (.cells #[.pointer (some ⟨E, 0, none⟩), .slice (some ⟨x.1, 0, none⟩) 1 x.2.1] 59)) P E R PP peer rE rR rl md hv 1 true iv4 nx4 rest lvr (L ++ bytes (ms.take i))) := d4.none ua
      have U5 : Hid (Upd (Sd rR rl) ρ w ρr (w4.alloc (.cells #[.pointer (some ⟨E, 0, none⟩), .slice (some ⟨x.1, 0, none⟩) 1 x.2.1] 59))) := (U3.out.trans (u4.mono (fun r h => h.elim Or.inl (fun h => Or.inr (Or.inl h))))).alloc _
      have B5 : Hid ((w4.alloc (.cells #[.pointer (some ⟨E, 0, none⟩), .slice (some ⟨x.1, 0, none⟩) 1 x.2.1] 59)).rowIs bm 4 1 (fun _ => .bool false)) := (u4.row B3.out (by rw [HK.out.2.2.1]; unfold S16; decide)).alloc _
      have b5 : (w4.alloc (.cells #[.pointer (some ⟨E, 0, none⟩), .slice (some ⟨x.1, 0, none⟩) 1 x.2.1] 59)).cell? ⟨w.heap.size, 0, none⟩ = some (.pointer (some ⟨P, 2, none⟩)) := ua.cell (u4.cell b3 (by rw [HK.out.2.2.2.1]; unfold S16; decide)) (fun h => h)
      have M5 : Hid (Msu ρr (w4.alloc (.cells #[.pointer (some ⟨E, 0, none⟩), .slice (some ⟨x.1, 0, none⟩) 1 x.2.1] 59)) x.1 x.2.2) := mm4.keep ua (fun h => h)
      have i0 : (w4.alloc (.cells #[.pointer (some ⟨E, 0, none⟩), .slice (some ⟨x.1, 0, none⟩) 1 x.2.1] 59)).cell? ⟨w4.heap.size, 0, none⟩ = some (.pointer (some ⟨E, 0, none⟩)) := by simp
      have i1 : (w4.alloc (.cells #[.pointer (some ⟨E, 0, none⟩), .slice (some ⟨x.1, 0, none⟩) 1 x.2.1] 59)).cell? ⟨w4.heap.size, 1, none⟩ = some (.slice (some ⟨x.1, 0, none⟩) 1 x.2.1) := by simp
      have HR4 : Hid (ρr w4.heap.size = 0) := d4.fr _ (Nat.le_refl _)
      have HN4 : Hid (nx4 ≤ nx + 1 ∧ (rest = [] → nx4 = 0)) := ⟨hn4, fun h => hz4 (by rw [h]; rfl)⟩
      clear p4 q4 hn4 hz4 u4 d4 mm4 ua D3 U3 B3 b3 HPQ
      generalize (w4.alloc (.cells #[.pointer (some ⟨E, 0, none⟩), .slice (some ⟨x.1, 0, none⟩) 1 x.2.1] 59)) = w5 at *
      go_upto_region 15 with (go_at_call 12; refine (unlock2 D5.out.fr D5.out.p).mono ?_; rintro e w6 ⟨rfl, p6, u6⟩)
      have D6 : Hid (DS ρr w6 P E R PP peer rE rR rl md hv 0 true iv4 nx4 rest lvr (L ++ bytes (ms.take i))) := D5.out.pipe hE1 hR1 hl1 u6 p6
      have U6 : Hid (Upd (Sd rR rl) ρ w ρr w6) := U5.out.trans (u6.mono (fun r h => Or.inl h))
      have B6 : Hid (w6.rowIs bm 4 1 (fun _ => .bool false)) := u6.row B5.out (by rw [HK.out.2.2.1]; decide)
      have b6 : w6.cell? ⟨w.heap.size, 0, none⟩ = some (.pointer (some ⟨P, 2, none⟩)) := u6.cell b5 (by rw [HK.out.2.2.2.1]; decide)
      have M6 : Hid (Msu ρr w6 x.1 x.2.2) := M5.out.keep u6 (by decide)
      have j0 : w6.cell? ⟨w4.heap.size, 0, none⟩ = some (.pointer (some ⟨E, 0, none⟩)) := u6.cell i0 (by rw [HR4.out]; decide)
      have j1 : w6.cell? ⟨w4.heap.size, 1, none⟩ = some (.slice (some ⟨x.1, 0, none⟩) 1 x.2.1) := u6.cell i1 (by rw [HR4.out]; decide)
      clear p6 u6 D5 U5 B5 b5 M5 i0 i1
      have hll2 : (L ++ bytes (ms.take i)).length ≤ 100000 := by rw [List.length_append, bytes, List.length_map, List.length_take]; omega
      go_wp2_with (go_at_call 15; refine (deliver_any ρr w6 P E R rE rR rl x.1 x.2.1 PP peer 0 iv4 nx4 true md hv x.2.2 lvr (L ++ bytes (ms.take i)) D6.out.fr D6.out.p D6.out.e D6.out.r D6.out.l M6.out hll2 hne hl9 hR9 hE1 hR1 hl1).mono ?_; rintro e w7 ⟨rfl, hdel⟩)
      obtain ⟨ρ7, lv7, p7, r7, l7, u7⟩ := hdel
      have HF7 : Hid (∃ ρr ivr nx lvr, DI ρ w w7 P E R PP peer rE rR rl bm md hv ms L (i + 1) ρr ivr nx lvr) := by
        have hd7 := D6.out.delivered hE1 hR6 hl6 hR9 hl9 hER hEl u7 p7 r7 l7
        have hdrop : ms.drop (i + 1) = rest := by
          have := congrArg List.tail HDR.out
          rwa [List.tail_drop] at this
        have htake : bytes (ms.take (i + 1)) = bytes (ms.take i) ++ [x.2.2] := by
          have hx : ms[i]? = some x := by
            have := congrArg List.head? HDR.out
            rwa [List.head?_drop] at this
          rw [List.take_add_one, hx]
          simp [bytes]
        have r0 : ¬ (0 = 1 ∨ 0 = rR ∨ 0 = rl) := fun h => h.elim (by decide) (fun h => h.elim (fun e => hR0 e.symm) (fun e => hl0 e.symm))
        refine ⟨ρ7, iv4, nx4, lv7, ?_⟩
        exact {
          d := by rw [hdrop, htake, ← List.append_assoc]; exact hd7
          hn := by have := HN4.out.1; omega
          z := fun h => HN4.out.2 (by rw [← hdrop]; exact h)
          u := U6.out.trans (u7.mono (fun r h => h.elim Or.inl (fun h => Or.inr (Or.inr h))))
          o := u7.cell b6 (by show ¬ _; rw [HK.out.2.2.2.1]; exact r0)
          b := u7.row B6.out (by rw [HK.out.2.2.1]; exact r0)
          rb := (u7.role bm B6.out.lt).trans HK.out.2.2.1
          ro := (u7.role _ (World.block_lt_of_cell? _ _ b6)).trans HK.out.2.2.2.1
          lt := HK.out.2.2.2.2 }
      go_roundg (ms.length - (i + 1))
      case measure => omega
      case rel =>
        obtain ⟨a1, a2, a3, a4, a5⟩ := HF7.out
        exact ⟨i + 1, by omega, rfl, a1, a2, a3, a4, a5⟩
end Go.Proofs.Ybulkceww.Pipe
