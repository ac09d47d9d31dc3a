/-
  LawS4052AScript: Hold, Drop, Attach.
-/
import Derived.Test.YbulkcewwDrain
namespace Go.Proofs.Ybulkceww.Pipe
open Go.RowKit
set_option linter.unusedVariables false
set_option maxRecDepth 100000

set_option maxHeartbeats 1000000 in
theorem hold_any (ρ : Nat → Nat) (w : World) (P X Y rX : Nat) (m1 : Int) (iv : Value) (nx : Int) (dl : Bool) (rc md hv : Value) (hf : Fresh ρ w) (hp : Pip ρ w P 0 m1 iv nx dl) (hX : EndS ρ w rX X P Y rc md hv) (h1 : rX ≠ 1) :
    Calls Yba.prog 7 #[.pointer (some ⟨X, 0, none⟩)] w fun e w' => e = .returned (.tuple #[]) ∧ Pip ρ w' P 0 m1 iv nx dl ∧ EndS ρ w' rX X P Y rc (.string hS) hv ∧ Upd (fun r => r = 1 ∨ r = rX) ρ w ρ w' := by
  have HP : Hid (Pip ρ w P 0 m1 iv nx dl) := hp
  have HX : Hid (EndS ρ w rX X P Y rc md hv) := hX
  have HF : Hid (Fresh ρ w) := hf
  clear hp hX hf
  have c0 : w.cell? ⟨X, 0, none⟩ = some (.pointer (some ⟨P, 0, none⟩)) := HX.out.2.cell (by omega)
  go_enter_defers Yba.func7, Yba.ntmps7
  go_upto_region 1 with (go_at_call 11; refine (lock0 HF.out HP.out).mono ?_; rintro e w2 ⟨rfl, p2, u2⟩)
  have P2 : Hid (Pip ρ w2 P 1 m1 iv nx dl) := p2
  have X2 : Hid (EndS ρ w2 rX X P Y rc md hv) := HX.out.keep u2 (by simpa using h1)
  have U2 : Hid (Upd (fun r => r = 1) ρ w ρ w2) := u2
  clear c0 p2 u2
  have c0 : w2.cell? ⟨X, 0, none⟩ = some (.pointer (some ⟨P, 0, none⟩)) := X2.out.2.cell (by omega)
  have c3 : w2.cell? ⟨X, 3, none⟩ = some md := X2.out.2.cell (by omega)
  have f3 : w2.frozen? ⟨X, 3, none⟩ = false := X2.out.2.frozen 3
  go_wp2
  refine leaves_cons (f := 12) (args := #[.pointer (some ⟨P, 0, none⟩)]) (by simp) (by simp [go_sem]) ?_
  have u3 : Upd (fun r => r = rX) ρ w2 ρ (w2.setCell ⟨X, 3, none⟩ (.string hS)) := (Upd.refl U2.out.fresh).set _ (Or.inr X2.out.1)
  refine (unlock0D .returning u3.fresh (P2.out.keep u3 (by simpa using fun e => h1 e.symm))).mono ?_
  rintro x u' w4 ⟨rfl, rfl, p4, u4⟩
  exact ⟨_, results_none rfl _ _ _, rfl, p4, (X2.out.set3 _).keep u4 (by simpa using h1), (U2.out.mono (fun r h => Or.inl h)).trans ((u3.mono (fun r h => Or.inr h)).trans (u4.mono (fun r h => Or.inl h)))⟩

set_option maxHeartbeats 1000000 in
theorem drop_any (ρ : Nat → Nat) (w : World) (P X Y rX : Nat) (m1 : Int) (iv : Value) (nx : Int) (dl : Bool) (rc md hv : Value) (hf : Fresh ρ w) (hp : Pip ρ w P 0 m1 iv nx dl) (hX : EndS ρ w rX X P Y rc md hv) (h1 : rX ≠ 1) :
    Calls Yba.prog 6 #[.pointer (some ⟨X, 0, none⟩)] w fun e w' => e = .returned (.tuple #[]) ∧ Pip ρ w' P 0 m1 iv nx dl ∧ EndS ρ w' rX X P Y rc (.string pS) hv ∧ Upd (fun r => r = 1 ∨ r = rX) ρ w ρ w' := by
  have HP : Hid (Pip ρ w P 0 m1 iv nx dl) := hp
  have HX : Hid (EndS ρ w rX X P Y rc md hv) := hX
  have HF : Hid (Fresh ρ w) := hf
  clear hp hX hf
  have c0 : w.cell? ⟨X, 0, none⟩ = some (.pointer (some ⟨P, 0, none⟩)) := HX.out.2.cell (by omega)
  go_enter_defers Yba.func6, Yba.ntmps6
  go_upto_region 1 with (go_at_call 11; refine (lock0 HF.out HP.out).mono ?_; rintro e w2 ⟨rfl, p2, u2⟩)
  have P2 : Hid (Pip ρ w2 P 1 m1 iv nx dl) := p2
  have X2 : Hid (EndS ρ w2 rX X P Y rc md hv) := HX.out.keep u2 (by simpa using h1)
  have U2 : Hid (Upd (fun r => r = 1) ρ w ρ w2) := u2
  clear c0 p2 u2
  have c0 : w2.cell? ⟨X, 0, none⟩ = some (.pointer (some ⟨P, 0, none⟩)) := X2.out.2.cell (by omega)
  have c3 : w2.cell? ⟨X, 3, none⟩ = some md := X2.out.2.cell (by omega)
  have f3 : w2.frozen? ⟨X, 3, none⟩ = false := X2.out.2.frozen 3
  go_wp2
  refine leaves_cons (f := 12) (args := #[.pointer (some ⟨P, 0, none⟩)]) (by simp) (by simp [go_sem]) ?_
  have u3 : Upd (fun r => r = rX) ρ w2 ρ (w2.setCell ⟨X, 3, none⟩ (.string pS)) := (Upd.refl U2.out.fresh).set _ (Or.inr X2.out.1)
  refine (unlock0D .returning u3.fresh (P2.out.keep u3 (by simpa using fun e => h1 e.symm))).mono ?_
  rintro x u' w4 ⟨rfl, rfl, p4, u4⟩
  exact ⟨_, results_none rfl _ _ _, rfl, p4, (X2.out.set3 _).keep u4 (by simpa using h1), (U2.out.mono (fun r h => Or.inl h)).trans ((u3.mono (fun r h => Or.inr h)).trans (u4.mono (fun r h => Or.inl h)))⟩

set_option maxHeartbeats 1000000 in
theorem attach_any (ρ : Nat → Nat) (w : World) (P X Y rX R : Nat) (m1 : Int) (iv : Value) (nx : Int) (dl : Bool) (rc md hv : Value) (hf : Fresh ρ w) (hp : Pip ρ w P 0 m1 iv nx dl) (hX : EndS ρ w rX X P Y rc md hv) (h1 : rX ≠ 1) :
    Calls Yba.prog 5 #[.pointer (some ⟨X, 0, none⟩), .iface 26 (.pointer (some ⟨R, 0, none⟩))] w fun e w' => e = .returned (.tuple #[]) ∧ Pip ρ w' P 0 m1 iv nx dl ∧ EndS ρ w' rX X P Y (.iface 26 (.pointer (some ⟨R, 0, none⟩))) md hv ∧ Upd (fun r => r = 1 ∨ r = rX) ρ w ρ w' := by
  have HP : Hid (Pip ρ w P 0 m1 iv nx dl) := hp
  have HX : Hid (EndS ρ w rX X P Y rc md hv) := hX
  have HF : Hid (Fresh ρ w) := hf
  clear hp hX hf
  have c0 : w.cell? ⟨X, 0, none⟩ = some (.pointer (some ⟨P, 0, none⟩)) := HX.out.2.cell (by omega)
  go_enter_defers Yba.func5, Yba.ntmps5
  go_upto_region 1 with (go_at_call 11; refine (lock0 HF.out HP.out).mono ?_; rintro e w2 ⟨rfl, p2, u2⟩)
  have P2 : Hid (Pip ρ w2 P 1 m1 iv nx dl) := p2
  have X2 : Hid (EndS ρ w2 rX X P Y rc md hv) := HX.out.keep u2 (by simpa using h1)
  have U2 : Hid (Upd (fun r => r = 1) ρ w ρ w2) := u2
  clear c0 p2 u2
  have c0 : w2.cell? ⟨X, 0, none⟩ = some (.pointer (some ⟨P, 0, none⟩)) := X2.out.2.cell (by omega)
  have c2 : w2.cell? ⟨X, 2, none⟩ = some rc := X2.out.2.cell (by omega)
  have f2 : w2.frozen? ⟨X, 2, none⟩ = false := X2.out.2.frozen 2
  go_wp2
  refine leaves_cons (f := 12) (args := #[.pointer (some ⟨P, 0, none⟩)]) (by simp) (by simp [go_sem]) ?_
  have u3 : Upd (fun r => r = rX) ρ w2 ρ (w2.setCell ⟨X, 2, none⟩ (.iface 26 (.pointer (some ⟨R, 0, none⟩)))) := (Upd.refl U2.out.fresh).set _ (Or.inr X2.out.1)
  refine (unlock0D .returning u3.fresh (P2.out.keep u3 (by simpa using fun e => h1 e.symm))).mono ?_
  rintro x u' w4 ⟨rfl, rfl, p4, u4⟩
  exact ⟨_, results_none rfl _ _ _, rfl, p4, (X2.out.set2 _).keep u4 (by simpa using h1), (U2.out.mono (fun r h => Or.inl h)).trans ((u3.mono (fun r h => Or.inr h)).trans (u4.mono (fun r h => Or.inl h)))⟩
end Go.Proofs.Ybulkceww.Pipe
