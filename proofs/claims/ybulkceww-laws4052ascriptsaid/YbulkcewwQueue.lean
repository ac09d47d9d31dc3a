/-
  LawS4052AScript: the queue: push, waiting, pop.
-/
import Derived.Test.YbulkcewwMem
namespace Go.Proofs.Ybulkceww.Pipe
open Go.RowKit
set_option linter.unusedVariables false
set_option maxRecDepth 100000

/-- append to a row of one's own, as one step of a region that draws its order. -/
theorem step_append_own {P : Program} {ops : Array Oper} {o : Oper} {a : Act} {w : World} {K : Act → World → Prop} {Q : Exit → Act → World → Prop} {E : Prop}
    (hgd : o.guard = none) (s x : Operand) (t : TypeId) (ho : o.op = .call { callee := .builtin .append, args := #[s, x], argTypes := #[t, t] })
    (base : Nat) (e : TypeId) (i : TypeInfo) (z : Value) (size bytes : Nat) (ht : P.underlying t = some (.slice e)) (hi : P.info? e = some i) (hz : i.zero = some z)
    (hsize : i.size = size) (hby : i.bytes = bytes) (hzs : z.cells.size = size) (hsz : 0 < size)
    (v : Value) (n : Nat) (xs : List Value) (hs : a.eval s = v) (hown : w.ownsRow base e size v n xs)
    (ad : Addr) (m c : Nat) (news : List Value) (hx : a.eval x = .slice (some ad) m c) (hl : news.length = m * size) (hnews : ∀ j u, news[j]? = some u → w.cell? (ad.add j) = some u) (h1 : ∀ u ∈ news, u.oneCell' = true)
    (h63 : n + m ≤ maxLen) (hbytes : (n + m) * bytes ≤ 140737488355328) (hbase : base ≤ w.heap.size)
    (h : ∀ v' w', w'.ownsRow base e size v' (n + m) (xs ++ news) → w.grownBy w' v.ownBlock → (v' = .slice none 0 0 ↔ v = .slice none 0 0 ∧ m = 0) → (v'.ownBlock = v.ownBlock ∨ v'.ownBlock = some w.heap.size) → K (a.put o.dst v') w') :
    if Region.wanted o (yielded ops a.tmps) = true then Oper.wp P o a w K Q else E := by
  have hw : Region.wanted o (yielded ops a.tmps) = true := by simp [Region.wanted, hgd]
  rw [if_pos hw]
  obtain ⟨v', w', hr, h2, h3, h4, h5⟩ := run_append_own_at (P := P) w base t o.type e i z size bytes ht hi hz hsize hby hzs hsz v n xs hown ad m c news hl hnews h1 h63 hbytes hbase
  unfold Oper.wp execOp
  simp only [ho, resolve, invoke, builtin, Sem.run_bind, Sem.run_pure, Result.andThen_ok, List.map_toArray, List.map_cons, List.map_nil, hs, hx, hr]
  exact h v' w' h2 h3 h4 h5

theorem two_new (w : World) (x y : Value) (t : TypeId) : ∀ j u, [x, y][j]? = some u → (w.alloc (.cells #[x, y] t)).cell? ((⟨w.heap.size, 0, none⟩ : Addr).add j) = some u := by
  intro j u hj
  match j, hj with
  | 0, hj => simp at hj; subst hj; simp [Addr.add]
  | 1, hj => simp at hj; subst hj; simp [Addr.add]

theorem qs_append {xs : List Value} {nx : Nat} {ms : List (Value × Value)} (hl : xs.length = (nx + ms.length) * 2) (hx : ∀ i, i < ms.length → xs[2 * (nx + i)]? = (ms[i]?).map (·.1) ∧ xs[2 * (nx + i) + 1]? = (ms[i]?).map (·.2)) (p q : Value) :
    ∀ i, i < (ms ++ [(p, q)]).length → (xs ++ [p, q])[2 * (nx + i)]? = ((ms ++ [(p, q)])[i]?).map (·.1) ∧ (xs ++ [p, q])[2 * (nx + i) + 1]? = ((ms ++ [(p, q)])[i]?).map (·.2) := by
  intro i hi
  by_cases h : i < ms.length
  · have h1 : 2 * (nx + i) < xs.length := by omega
    have h2 : 2 * (nx + i) + 1 < xs.length := by omega
    rw [List.getElem?_append_left h1, List.getElem?_append_left h2, List.getElem?_append_left h]
    exact hx i h
  · have : i = ms.length := by simp at hi; omega
    subst this
    have h1 : xs.length ≤ 2 * (nx + ms.length) := by omega
    have h2 : xs.length ≤ 2 * (nx + ms.length) + 1 := by omega
    rw [List.getElem?_append_right h1, List.getElem?_append_right h2, hl]
    have e1 : 2 * (nx + ms.length) - (nx + ms.length) * 2 = 0 := by omega
    have e2 : 2 * (nx + ms.length) + 1 - (nx + ms.length) * 2 = 1 := by omega
    rw [e1, e2]
    simp

theorem pushed {ρ : Nat → Nat} {w w' : World} {P : Nat} {m0 m1 : Int} {iv v' p q : Value} {nx : Nat} {dl : Bool} {ms : List (Value × Value)} {xs : List Value} (hf : Fresh ρ w) (hp : Pip ρ w P m0 m1 iv nx dl)
    (hk : ∀ k, iv.ownBlock = some k → ρ k = 6) (hxl : xs.length = (nx + ms.length) * 2) (hx : ∀ i, i < ms.length → xs[2 * (nx + i)]? = (ms[i]?).map (·.1) ∧ xs[2 * (nx + i) + 1]? = (ms[i]?).map (·.2))
    (hO : w'.ownsRow 0 59 2 v' (nx + ms.length + 1) (xs ++ [p, q])) (hg : w.grownBy w' iv.ownBlock) (hbk : v'.ownBlock = iv.ownBlock ∨ v'.ownBlock = some w.heap.size) :
    ∃ ρ' iv', Pip ρ' (w'.setCell ⟨P, 4, none⟩ v') P m0 m1 iv' nx dl ∧ QS ρ' (w'.setCell ⟨P, 4, none⟩ v') iv' nx (ms ++ [(p, q)]) ∧ Upd (fun r => r = 1 ∨ r = 6) ρ w ρ' (w'.setCell ⟨P, 4, none⟩ v') := by
  obtain ⟨ρ', u, hk'⟩ := upd_append (n := 0) hf hk hO hg hbk
  have hp' := hp.keep u (by simp)
  have u1 : Upd (fun r => r = 1 ∨ r = 6) ρ w ρ' w' := u.mono (fun r h => Or.inr h)
  refine ⟨ρ', v', hp'.set4 v', ⟨xs ++ [p, q], owns_of_block (w := w') ?_ (fun k e hl => ?_), hk', qs_append hxl hx p q⟩, u1.set v' (Or.inr (Or.inl hp'.1))⟩
  · rw [List.length_append]; exact hO
  · refine Below.heap_setCell _ _ _ _ (fun e2 => ?_)
    have h6 := hk' k e
    simp at e2
    rw [e2, hp'.1] at h6
    exact absurd h6 (by decide)

theorem push_end {ρ : Nat → Nat} {w w2 w' : World} {P : Nat} {m0 m1 : Int} {iv v' p q : Value} {nx : Nat} {dl : Bool} {ms : List (Value × Value)} {xs : List Value} (u : Upd (fun r => r = 1 ∨ r = 6) ρ w ρ w2) (hp : Pip ρ w2 P m0 m1 iv nx dl)
    (hk : ∀ k, iv.ownBlock = some k → ρ k = 6) (hxl : xs.length = (nx + ms.length) * 2) (hx : ∀ i, i < ms.length → xs[2 * (nx + i)]? = (ms[i]?).map (·.1) ∧ xs[2 * (nx + i) + 1]? = (ms[i]?).map (·.2))
    (hO : w'.ownsRow 0 59 2 v' (nx + ms.length + 1) (xs ++ [p, q])) (hg : w2.grownBy w' iv.ownBlock) (hbk : v'.ownBlock = iv.ownBlock ∨ v'.ownBlock = some w2.heap.size) :
    ∃ ρ' iv', Pip ρ' (w'.setCell ⟨P, 4, none⟩ v') P m0 m1 iv' nx dl ∧ QS ρ' (w'.setCell ⟨P, 4, none⟩ v') iv' nx (ms ++ [(p, q)]) ∧ Upd (fun r => r = 1 ∨ r = 6) ρ w ρ' (w'.setCell ⟨P, 4, none⟩ v') := by
  obtain ⟨ρ', iv', h1, h2, h3⟩ := pushed u.fresh hp hk hxl hx hO hg hbk
  exact ⟨ρ', iv', h1, h2, u.trans h3⟩

theorem owns_shape {w : World} {b e size n : Nat} {v : Value} {xs : List Value} (h : w.ownsRow b e size v n xs) (hn : ¬ v = .slice none 0 0) : ∃ g cap, v = .slice (some ⟨g, 0, none⟩) n cap := by
  rcases h.2 with ⟨h1, _⟩ | ⟨g, cap, cur, hv, _⟩
  · exact absurd h1 hn
  · exact ⟨g, cap, hv⟩

theorem pip_ne {ρ : Nat → Nat} {w : World} {P : Nat} {m0 m1 : Int} {iv : Value} {nx : Int} {dl : Bool} (hp : Pip ρ w P m0 m1 iv nx dl) (hk : ∀ k, iv.ownBlock = some k → ρ k = 6) : some P ≠ iv.ownBlock := fun e => by
  have := hk P e.symm
  rw [hp.1] at this
  exact absurd this (by decide)

set_option maxHeartbeats 1000000 in
theorem push_any (ρ : Nat → Nat) (w : World) (P : Nat) (m0 m1 : Int) (iv : Value) (nx : Nat) (dl : Bool) (ms : List (Value × Value)) (e b c : Nat) (hf : Fresh ρ w)
    (hp : Pip ρ w P m0 m1 iv nx dl) (hq : QS ρ w iv nx ms) (hlen : nx + ms.length ≤ 100000) :
    Calls Yba.prog 18 #[.pointer (some ⟨P, 4, none⟩), .agg #[.pointer (some ⟨e, 0, none⟩), .slice (some ⟨b, 0, none⟩) 1 c]] w fun x w' => x = .returned (.tuple #[]) ∧
      ∃ ρ' iv', Pip ρ' w' P m0 m1 iv' nx dl ∧ QS ρ' w' iv' nx (ms ++ [(.pointer (some ⟨e, 0, none⟩), .slice (some ⟨b, 0, none⟩) 1 c)]) ∧ Upd (fun r => r = 1 ∨ r = 6) ρ w ρ' w' := by
  obtain ⟨i0, hi, hz0, hz1, hz2⟩ := info_parts info59
  have HP : Hid (Pip ρ w P m0 m1 iv nx dl) := hp
  have HQ : Hid (QS ρ w iv nx ms) := hq
  have HF : Hid (Fresh ρ w) := hf
  clear hp hq hf
  go_enter Yba.func18, Yba.ntmps18
  go_upto_region 1 with fail
  have U1 : Hid (Upd (fun r => r = 1 ∨ r = 6) ρ w ρ (w.alloc (.cells #[.pointer (some ⟨e, 0, none⟩), .slice (some ⟨b, 0, none⟩) 1 c] 59))) := (Upd.refl HF.out).alloc _
  have b0 : (w.alloc (.cells #[.pointer (some ⟨e, 0, none⟩), .slice (some ⟨b, 0, none⟩) 1 c] 59)).cell? ⟨w.heap.size, 0, none⟩ = some (.pointer (some ⟨e, 0, none⟩)) := by simp
  have b1 : (w.alloc (.cells #[.pointer (some ⟨e, 0, none⟩), .slice (some ⟨b, 0, none⟩) 1 c] 59)).cell? ⟨w.heap.size, 1, none⟩ = some (.slice (some ⟨b, 0, none⟩) 1 c) := by simp
  have P1 : Hid (Pip ρ (w.alloc (.cells #[.pointer (some ⟨e, 0, none⟩), .slice (some ⟨b, 0, none⟩) 1 c] 59)) P m0 m1 iv nx dl) := ⟨HP.out.1, HP.out.2.alloc _⟩
  have Q1 : Hid (QS ρ (w.alloc (.cells #[.pointer (some ⟨e, 0, none⟩), .slice (some ⟨b, 0, none⟩) 1 c] 59)) iv nx ms) := HQ.out.keep ((Upd.refl (S := fun _ => False) HF.out).alloc _) (by simp)
  generalize w.alloc (.cells #[.pointer (some ⟨e, 0, none⟩), .slice (some ⟨b, 0, none⟩) 1 c] 59) = w1 at *
  clear HP HQ
  obtain ⟨xs, ho, hk, hx⟩ := Q1.out
  have HO : Hid (∀ o, (w1.alloc o).ownsRow 0 59 2 iv (nx + ms.length) xs) := fun o => World.ownsRow.alloc ho o
  have HKX : Hid ((∀ k, iv.ownBlock = some k → ρ k = 6) ∧ xs.length = (nx + ms.length) * 2 ∧ ∀ i, i < ms.length → xs[2 * (nx + i)]? = (ms[i]?).map (·.1) ∧ xs[2 * (nx + i) + 1]? = (ms[i]?).map (·.2)) := ⟨hk, ho.1, hx⟩
  clear ho hk hx Q1
  have HPA : Hid (∀ o, Pip ρ (w1.alloc o) P m0 m1 iv nx dl) := fun o => ⟨P1.out.1, P1.out.2.alloc o⟩
  have c4 : w1.cell? ⟨P, 4, none⟩ = some iv := P1.out.2.cell (by omega)
  have c4' : ∀ o, (w1.alloc o).cell? ⟨P, 4, none⟩ = some iv := fun o => (HPA.out o).2.cell (by omega)
  have hPl : P < w1.heap.size := P1.out.2.lt
  go_region_law (refine step_append_own rfl (.tmp 8) (.tmp 10) 50 rfl 0 59 i0 (.agg #[.pointer none, .slice none 0 0]) 2 32 Yba.underlying50 hi hz0 hz1 hz2 rfl (by decide) iv (nx + ms.length) xs rfl (HO.out _) _ 1 1 [.pointer (some ⟨e, 0, none⟩), .slice (some ⟨b, 0, none⟩) 1 c] rfl rfl (fun j u h => two_new w1 _ _ _ j u h) (by intro u hu; simp at hu; rcases hu with rfl | rfl <;> rfl) (by unfold maxLen; omega) (by omega) (Nat.zero_le _) ?_; intro v' w' hO hg hn hbk; obtain ⟨gq, cq, rfl⟩ := owns_shape hO (fun e => absurd (hn.1 e).2 (by decide)); have HD : Hid (∃ ρ' iv', Pip ρ' (w'.setCell ⟨P, 4, none⟩ (.slice (some ⟨gq, 0, none⟩) (nx + ms.length + 1) cq)) P m0 m1 iv' nx dl ∧ QS ρ' (w'.setCell ⟨P, 4, none⟩ (.slice (some ⟨gq, 0, none⟩) (nx + ms.length + 1) cq)) iv' nx (ms ++ [(.pointer (some ⟨e, 0, none⟩), .slice (some ⟨b, 0, none⟩) 1 c)]) ∧ Upd (fun r => r = 1 ∨ r = 6) ρ w ρ' (w'.setCell ⟨P, 4, none⟩ (.slice (some ⟨gq, 0, none⟩) (nx + ms.length + 1) cq))) := push_end (w2 := w1.alloc (.cells #[.pointer (some ⟨e, 0, none⟩), .slice (some ⟨b, 0, none⟩) 1 c] 59)) (U1.out.alloc _) (HPA.out _) HKX.out.1 HKX.out.2.1 HKX.out.2.2 hO ⟨hg.os, hg.tape, hg.output, hg.size, hg.block⟩ hbk; have c9 : w'.cell? ⟨P, 4, none⟩ = some iv := (World.cell?_of_block (hg.block P (by simp; omega) (pip_ne P1.out HKX.out.1))).trans (c4' _); have f9 : w'.frozen? ⟨P, 4, none⟩ = false := (World.frozen?_of_block (hg.block P (by simp; omega) (pip_ne P1.out HKX.out.1))).trans ((HPA.out _).2.frozen 4); clear hO hg hn hbk)
  all_goals go_end0
  all_goals exact ⟨rfl, HD.out⟩

set_option maxHeartbeats 400000 in
theorem waiting_any (ρ : Nat → Nat) (w : World) (P : Nat) (m0 m1 : Int) (a : Option Addr) (nx m cap : Nat) (dl : Bool)
    (hp : Pip ρ w P m0 m1 (.slice a (nx + m) cap) nx dl) (hlen : nx + m ≤ 100000) :
    Calls Yba.prog 20 #[.pointer (some ⟨P, 4, none⟩)] w fun x w' => x = .returned (.int .i64 m) ∧ ∃ j, w' = w.drewN j := by
  have c4 : w.cell? ⟨P, 4, none⟩ = some (.slice a (nx + m) cap) := hp.2.cell (by omega)
  have c5 : w.cell? ⟨P, 5, none⟩ = some (.int .i64 nx) := hp.2.cell (by omega)
  have hw : wrap64 (((nx + m : Nat) : Int) - (nx : Int)) = (m : Int) := by unfold wrap64; omega
  clear hp
  go_enter Yba.func20, Yba.ntmps20
  go_wp2
  go_quiet (fail)
  go_wp2
  go_ret
  refine ⟨?_, _, rfl⟩
  show Ending.returned (.int .i64 ((nx : Int) + (m : Int) - (nx : Int))) = _
  rw [show (nx : Int) + (m : Int) - (nx : Int) = (m : Int) by omega]
end Go.Proofs.Ybulkceww.Pipe
