/-
  LawS4052AScript: the locks on the pipe; add; deliver.
-/
import Derived.Test.YbulkcewwRecv
import Derived.Deep.RegionHeld3
namespace Go.Proofs.Ybulkceww.Pipe
open Go.RowKit Go.MuLone
set_option linter.unusedVariables false
set_option maxRecDepth 100000

section
variable {ρ : Nat → Nat} {w : World} {P : Nat} {m0 m1 : Int} {iv : Value} {nx : Int} {dl : Bool}

theorem lock0 (hf : Fresh ρ w) (hp : Pip ρ w P 0 m1 iv nx dl) :
    Calls Yba.prog 11 #[.pointer (some ⟨P, 0, none⟩)] w fun e w' => e = .returned (.tuple #[]) ∧ Pip ρ w' P 1 m1 iv nx dl ∧ Upd (fun r => r = 1) ρ w ρ w' := by
  refine (lock_free Yba.muLib ⟨P, 0, none⟩ w (hp.2.cell (by omega)) (hp.2.frozen 0)).mono ?_
  rintro e w' ⟨rfl, rfl⟩
  exact ⟨rfl, hp.set0 1, (Upd.refl hf).set _ (Or.inr hp.1)⟩
theorem unlock0 (hf : Fresh ρ w) (hp : Pip ρ w P 1 m1 iv nx dl) :
    Calls Yba.prog 12 #[.pointer (some ⟨P, 0, none⟩)] w fun e w' => e = .returned (.tuple #[]) ∧ Pip ρ w' P 0 m1 iv nx dl ∧ Upd (fun r => r = 1) ρ w ρ w' := by
  refine (unlock_held Yba.muLib ⟨P, 0, none⟩ w (hp.2.cell (by omega)) (hp.2.frozen 0)).mono ?_
  rintro e w' ⟨rfl, rfl⟩
  exact ⟨rfl, hp.set0 0, (Upd.refl hf).set _ (Or.inr hp.1)⟩
theorem lock2 (hf : Fresh ρ w) (hp : Pip ρ w P m0 0 iv nx dl) :
    Calls Yba.prog 11 #[.pointer (some ⟨P, 2, none⟩)] w fun e w' => e = .returned (.tuple #[]) ∧ Pip ρ w' P m0 1 iv nx dl ∧ Upd (fun r => r = 1) ρ w ρ w' := by
  refine (lock_free Yba.muLib ⟨P, 2, none⟩ w (hp.2.cell (by omega)) (hp.2.frozen 2)).mono ?_
  rintro e w' ⟨rfl, rfl⟩
  exact ⟨rfl, hp.set2 1, (Upd.refl hf).set _ (Or.inr hp.1)⟩
theorem unlock2 (hf : Fresh ρ w) (hp : Pip ρ w P m0 1 iv nx dl) :
    Calls Yba.prog 12 #[.pointer (some ⟨P, 2, none⟩)] w fun e w' => e = .returned (.tuple #[]) ∧ Pip ρ w' P m0 0 iv nx dl ∧ Upd (fun r => r = 1) ρ w ρ w' := by
  refine (unlock_held Yba.muLib ⟨P, 2, none⟩ w (hp.2.cell (by omega)) (hp.2.frozen 2)).mono ?_
  rintro e w' ⟨rfl, rfl⟩
  exact ⟨rfl, hp.set2 0, (Upd.refl hf).set _ (Or.inr hp.1)⟩
theorem unlock0D (u : FrameMode) (hf : Fresh ρ w) (hp : Pip ρ w P 1 m1 iv nx dl) :
    CallsD Yba.prog 12 #[.pointer (some ⟨P, 0, none⟩)] u w fun e u' w' => u' = u ∧ (e = .returned (.tuple #[]) ∧ Pip ρ w' P 0 m1 iv nx dl ∧ Upd (fun r => r = 1) ρ w ρ w') := by
  refine (unlock_deferred Yba.muLib ⟨P, 0, none⟩ u w (hp.2.cell (by omega)) (hp.2.frozen 0)).mono ?_
  rintro e u' w' ⟨rfl, rfl, rfl⟩
  exact ⟨rfl, rfl, hp.set0 0, (Upd.refl hf).set _ (Or.inr hp.1)⟩
theorem unlock2D (u : FrameMode) (hf : Fresh ρ w) (hp : Pip ρ w P m0 1 iv nx dl) :
    CallsD Yba.prog 12 #[.pointer (some ⟨P, 2, none⟩)] u w fun e u' w' => u' = u ∧ (e = .returned (.tuple #[]) ∧ Pip ρ w' P m0 0 iv nx dl ∧ Upd (fun r => r = 1) ρ w ρ w') := by
  refine (unlock_deferred Yba.muLib ⟨P, 2, none⟩ u w (hp.2.cell (by omega)) (hp.2.frozen 2)).mono ?_
  rintro e u' w' ⟨rfl, rfl, rfl⟩
  exact ⟨rfl, rfl, hp.set2 0, (Upd.refl hf).set _ (Or.inr hp.1)⟩
end

theorem Upd.cell {S : Nat → Prop} {ρ ρ' : Nat → Nat} {w w' : World} (u : Upd S ρ w ρ' w') {a : Addr} {v : Value} (h : w.cell? a = some v) (hs : ¬ S (ρ a.block)) : w'.cell? a = some v :=
  (World.cell?_of_block (u.keep _ (World.block_lt_of_cell? _ _ h) hs)).trans h

set_option maxHeartbeats 1000000 in
theorem deliver_any (ρ : Nat → Nat) (w : World) (P E R rE rR rl b c PP peer : Nat) (m1 : Int) (iv : Value) (nx : Int) (dl : Bool) (md hv : Value) (x : Int) (lv : Value) (L : List Int) (hf : Fresh ρ w)
    (hp : Pip ρ w P 0 m1 iv nx dl) (hE : EndS ρ w rE E PP peer (.iface 26 (.pointer (some ⟨R, 0, none⟩))) md hv) (hR : Rcv ρ w rR R lv) (hL : VL ρ w rl lv L) (hm : Msu ρ w b x) (hlen : L.length ≤ 100000)
    (hne : rR ≠ rl) (hl9 : rl ≠ 9) (hR9 : rR ≠ 9) (hE1 : rE ≠ 1) (hR1 : rR ≠ 1) (hl1 : rl ≠ 1) :
    Calls Yba.prog 15 #[.pointer (some ⟨P, 0, none⟩), .agg #[.pointer (some ⟨E, 0, none⟩), .slice (some ⟨b, 0, none⟩) 1 c]] w fun e w' => e = .returned (.tuple #[]) ∧
      ∃ ρ' lv', Pip ρ' w' P 0 m1 iv nx dl ∧ Rcv ρ' w' rR R lv' ∧ VL ρ' w' rl lv' (L ++ [x]) ∧ Upd (fun r => r = 1 ∨ r = rR ∨ r = rl) ρ w ρ' w' := by
  have HP : Hid (Pip ρ w P 0 m1 iv nx dl) := hp
  have HE : Hid (EndS ρ w rE E PP peer (.iface 26 (.pointer (some ⟨R, 0, none⟩))) md hv) := hE
  have HR : Hid (Rcv ρ w rR R lv) := hR
  have HL : Hid (VL ρ w rl lv L) := hL
  have HM : Hid (Msu ρ w b x) := hm
  have HF : Hid (Fresh ρ w) := hf
  clear hp hE hR hL hm hf
  have hmeth : ∀ w, (method 193 26 (.pointer (some ⟨R, 0, none⟩)) "Receive").run Yba.prog w = .ok (52, .pointer (some ⟨R, 0, none⟩)) w := fun _ => by kernel_rfl
  go_enter Yba.func15, Yba.ntmps15
  go_upto_region 1 with fail
  have U1 : Hid (Upd (fun r => r = 1) ρ w ρ (w.alloc (.cells #[.pointer (some ⟨E, 0, none⟩), .slice (some ⟨b, 0, none⟩) 1 c] 59))) := (Upd.refl HF.out).alloc _
  have b0 : (w.alloc (.cells #[.pointer (some ⟨E, 0, none⟩), .slice (some ⟨b, 0, none⟩) 1 c] 59)).cell? ⟨w.heap.size, 0, none⟩ = some (.pointer (some ⟨E, 0, none⟩)) := by simp
  have b1 : (w.alloc (.cells #[.pointer (some ⟨E, 0, none⟩), .slice (some ⟨b, 0, none⟩) 1 c] 59)).cell? ⟨w.heap.size, 1, none⟩ = some (.slice (some ⟨b, 0, none⟩) 1 c) := by simp
  have P1 : Hid (Pip ρ (w.alloc (.cells #[.pointer (some ⟨E, 0, none⟩), .slice (some ⟨b, 0, none⟩) 1 c] 59)) P 0 m1 iv nx dl) := ⟨HP.out.1, HP.out.2.alloc _⟩
  generalize w.alloc (.cells #[.pointer (some ⟨E, 0, none⟩), .slice (some ⟨b, 0, none⟩) 1 c] 59) = w1 at *
  have hr0 : ρ w.heap.size = 0 := HF.out _ (Nat.le_refl _)
  have HB0 : Hid (∀ w2, Upd (fun r => r = 1) ρ w1 ρ w2 → w2.cell? ⟨w.heap.size, 0, none⟩ = some (.pointer (some ⟨E, 0, none⟩)) ∧ w2.cell? ⟨w.heap.size, 1, none⟩ = some (.slice (some ⟨b, 0, none⟩) 1 c)) := fun w2 u => ⟨u.cell b0 (by rw [hr0]; decide), u.cell b1 (by rw [hr0]; decide)⟩
  clear b0 b1 hr0
  go_upto_region 2 with (go_at_call 11; refine (lock0 U1.out.fresh P1.out).mono ?_; rintro e w2 ⟨rfl, p2, u2⟩)
  have U2 : Hid (Upd (fun r => r = 1) ρ w1 ρ w2) := u2
  have P2 : Hid (Pip ρ w2 P 1 m1 iv nx dl) := p2
  clear p2 u2 P1
  have b0 : w2.cell? ⟨w.heap.size, 0, none⟩ = some (.pointer (some ⟨E, 0, none⟩)) := (HB0.out _ U2.out).1
  have e2 : w2.cell? ⟨E, 2, none⟩ = some (.iface 26 (.pointer (some ⟨R, 0, none⟩))) := (HE.out.keep (U1.out.trans U2.out) (by simpa using hE1)).2.cell (by omega)
  go_upto_region 4 with (go_at_call 12; refine (unlock0 U2.out.fresh P2.out).mono ?_; rintro e w3 ⟨rfl, p3, u3⟩)
  have U3 : Hid (Upd (fun r => r = 1) ρ w1 ρ w3) := U2.out.trans u3
  have P3 : Hid (Pip ρ w3 P 0 m1 iv nx dl) := p3
  clear p3 u3 P2 b0 e2
  have b1 : w3.cell? ⟨w.heap.size, 1, none⟩ = some (.slice (some ⟨b, 0, none⟩) 1 c) := (HB0.out _ U3.out).2
  have UU : Hid (Upd (fun r => r = 1) ρ w ρ w3) := U1.out.trans U3.out
  go_wp2_with (go_at_call 52; refine (receive_any ρ w3 R rR rl b c x lv L U3.out.fresh (HR.out.keep UU.out (by simpa using hR1)) (HL.out.keep UU.out (by simpa using hl1) (by decide)) (HM.out.keep UU.out (by decide)) hlen hne hl9 hR9).mono ?_; rintro e w4 ⟨rfl, hD⟩)
  obtain ⟨ρ4, lv4, h1, h2, h3⟩ := hD
  go_end0
  exact ⟨rfl, ρ4, lv4, P3.out.keep h3 (fun h => h.elim (fun e => hR1 e.symm) (fun e => hl1 e.symm)), h1, h2, (UU.out.mono (fun r h => Or.inl h)).trans (h3.mono (fun r h => Or.inr h))⟩

set_option maxHeartbeats 1000000 in
theorem add_any (ρ : Nat → Nat) (w : World) (P e b c : Nat) (m0 : Int) (iv : Value) (nx : Nat) (dl : Bool) (ms : List (Value × Value)) (hf : Fresh ρ w) (hp : Pip ρ w P m0 0 iv nx dl) (hq : QS ρ w iv nx ms) (hlen : nx + ms.length ≤ 100000) :
    Calls Yba.prog 13 #[.pointer (some ⟨P, 2, none⟩), .agg #[.pointer (some ⟨e, 0, none⟩), .slice (some ⟨b, 0, none⟩) 1 c]] w fun x w' => x = .returned (.tuple #[]) ∧
      ∃ ρ' iv', Pip ρ' w' P m0 0 iv' nx dl ∧ QS ρ' w' iv' nx (ms ++ [(.pointer (some ⟨e, 0, none⟩), .slice (some ⟨b, 0, none⟩) 1 c)]) ∧ Upd (fun r => r = 1 ∨ r = 6) ρ w ρ' w' := by
  have HP : Hid (Pip ρ w P m0 0 iv nx dl) := hp
  have HQ : Hid (QS ρ w iv nx ms) := hq
  have HF : Hid (Fresh ρ w) := hf
  clear hp hq hf
  go_enter_defers Yba.func13, Yba.ntmps13
  go_upto_region 1 with fail
  have U1 : Hid (Upd (fun r => r = 1) ρ w ρ (w.alloc (.cells #[.pointer (some ⟨e, 0, none⟩), .slice (some ⟨b, 0, none⟩) 1 c] 59))) := (Upd.refl HF.out).alloc _
  have b0 : (w.alloc (.cells #[.pointer (some ⟨e, 0, none⟩), .slice (some ⟨b, 0, none⟩) 1 c] 59)).cell? ⟨w.heap.size, 0, none⟩ = some (.pointer (some ⟨e, 0, none⟩)) := by simp
  have b1 : (w.alloc (.cells #[.pointer (some ⟨e, 0, none⟩), .slice (some ⟨b, 0, none⟩) 1 c] 59)).cell? ⟨w.heap.size, 1, none⟩ = some (.slice (some ⟨b, 0, none⟩) 1 c) := by simp
  have P1 : Hid (Pip ρ (w.alloc (.cells #[.pointer (some ⟨e, 0, none⟩), .slice (some ⟨b, 0, none⟩) 1 c] 59)) P m0 0 iv nx dl) := ⟨HP.out.1, HP.out.2.alloc _⟩
  generalize w.alloc (.cells #[.pointer (some ⟨e, 0, none⟩), .slice (some ⟨b, 0, none⟩) 1 c] 59) = w1 at *
  have hr0 : ρ w.heap.size = 0 := HF.out _ (Nat.le_refl _)
  have HB0 : Hid (∀ w2, Upd (fun r => r = 1) ρ w1 ρ w2 → w2.cell? ⟨w.heap.size, 0, none⟩ = some (.pointer (some ⟨e, 0, none⟩)) ∧ w2.cell? ⟨w.heap.size, 1, none⟩ = some (.slice (some ⟨b, 0, none⟩) 1 c)) := fun w2 u => ⟨u.cell b0 (by rw [hr0]; decide), u.cell b1 (by rw [hr0]; decide)⟩
  clear b0 b1 hr0
  go_upto_region 2 with (go_at_call 11; refine (lock2 U1.out.fresh P1.out).mono ?_; rintro x w2 ⟨rfl, p2, u2⟩)
  have U2 : Hid (Upd (fun r => r = 1) ρ w ρ w2) := U1.out.trans u2
  have P2 : Hid (Pip ρ w2 P m0 1 iv nx dl) := p2
  have Q2 : Hid (QS ρ w2 iv nx ms) := HQ.out.keep U2.out (by decide)
  have b0 : w2.cell? ⟨w.heap.size, 0, none⟩ = some (.pointer (some ⟨e, 0, none⟩)) := (HB0.out _ u2).1
  have b1 : w2.cell? ⟨w.heap.size, 1, none⟩ = some (.slice (some ⟨b, 0, none⟩) 1 c) := (HB0.out _ u2).2
  clear p2 u2 P1
  go_upto_region 3 with fail
  have UD : Hid (Upd (fun r => r = 1) ρ w ρ w2.drew) := U2.out.drew
  have PD : Hid (Pip ρ w2.drew P m0 1 iv nx dl) := ⟨P2.out.1, P2.out.2.drew⟩
  have QD : Hid (QS ρ w2.drew iv nx ms) := HQ.out.keep UD.out (by decide)
  refine wp_region_noPanic ?_
  go_region_with (go_at_call 18; refine (push_any ρ w2.drew P m0 1 iv nx dl ms e b c UD.out.fresh PD.out QD.out hlen).mono ?_; rintro x w3 ⟨rfl, hD⟩)
  obtain ⟨ρ3, iv3, p3, q3, u3⟩ := hD
  refine NoPanic.normal ?_
  go_wp2
  refine leaves_cons (f := 12) (args := #[.pointer (some ⟨P, 2, none⟩)]) (by simp) (by simp [go_sem]) ?_
  refine (unlock2D .returning u3.fresh p3).mono ?_
  rintro x u' w4 ⟨rfl, rfl, p4, u4⟩
  exact ⟨_, results_none rfl _ _ _, rfl, ρ3, iv3, p4, q3.keep u4 (by decide), (UD.out.mono (fun r h => Or.inl h)).trans (u3.trans (u4.mono (fun r h => Or.inl h)))⟩
end Go.Proofs.Ybulkceww.Pipe
