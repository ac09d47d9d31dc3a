/-
  LawS4052AScript: a receiver takes an MSU.
-/
import Derived.Test.YbulkcewwQueue
namespace Go.Proofs.Ybulkceww.Pipe
open Go.RowKit
set_option linter.unusedVariables false
set_option maxRecDepth 100000

section
variable {ρ : Nat → Nat} {w wa w' : World}

theorem msu_new {v : Value} {x : Int} (hf : Fresh ρ w) (hO : wa.ownsRow 0 5 1 v 1 [.int .u8 x]) (hg : w.grownBy wa none) (hn : ¬ v = .slice none 0 0) (hbk : v.ownBlock = none ∨ v.ownBlock = some w.heap.size) :
    ∃ g c, v = .slice (some ⟨g, 0, none⟩) 1 c ∧ ∃ ρa, Upd (fun _ => False) ρ w ρa wa ∧ Msu ρa wa g x := by
  rcases hO.2 with ⟨h1, _⟩ | ⟨g, cap, cur, hv, _, hgc, _, _, _, ht⟩
  · exact absurd h1 hn
  have hgs : g = w.heap.size := by
    rw [hv] at hbk
    simpa [Value.ownBlock] using hbk
  have hlt : g < wa.heap.size := (Array.getElem?_eq_some_iff.1 hgc).1
  refine ⟨g, cap, hv, updR ρ w.heap.size 9, ⟨hg.os, hg.tape, hg.output, hg.size, fun b hb => by unfold updR; rw [if_neg (by omega)], fun b hb _ => hg.block b hb (by simp), fun b hb => by have := hg.size; unfold updR; rw [if_neg (by omega)]; exact hf b (by omega)⟩, by rw [hgs]; simp [updR], ?_⟩
  have h0 : cur[0]? = some (.int .u8 x) := by
    have h2 : (cur.toList.take (1 * 1))[0]? = [Value.int .u8 x][0]? := by rw [ht]
    simpa using h2
  simp [World.cell?, hgc, h0]

theorem one1 (v : Value) (h : v.oneCell' = true) : ∀ u ∈ [v], u.oneCell' = true := by
  intro u hu
  rw [List.mem_singleton.1 hu]; exact h

theorem msu_src {b : Nat} {x : Int} (h : Msu ρ w b x) : ∀ j u, [Value.int .u8 x][j]? = some u → w.cell? ((⟨b, 0, none⟩ : Addr).add j) = some u := by
  intro j u hj
  match j, hj with
  | 0, hj =>
    simp at hj
    subst hj
    simpa [Addr.add] using h.2

theorem vl_owns {r : Nat} {v : Value} {L : List Int} (h : VL ρ w r v L) : ∃ xs, w.ownsRow 0 35 1 v L.length xs ∧ xs.length = L.length ∧ (∀ k, v.ownBlock = some k → ρ k = r) ∧ ∀ i, i < L.length → ∃ b c, xs[i]? = some (.slice (some ⟨b, 0, none⟩) 1 c) ∧ Msu ρ w b (L.getD i 0) := by
  obtain ⟨xs, h1, h2, h3⟩ := h
  exact ⟨xs, h1, by have := h1.1; omega, h2, h3⟩

theorem rcv_ne {rR rl R : Nat} {lv v : Value} (hR : Rcv ρ w rR R lv) (hk : ∀ k, v.ownBlock = some k → ρ k = rl) (hne : rR ≠ rl) : some R ≠ v.ownBlock := fun e => by
  have := hk R e.symm
  rw [hR.1] at this
  exact hne this

/-- Behind the append to the log and the store of its header. -/
theorem received {rR rl R g c : Nat} {lv v' : Value} {L : List Int} {x : Int} {xs : List Value} (hf : Fresh ρ w) (hR : Rcv ρ w rR R lv) (hne : rR ≠ rl) (hl9 : rl ≠ 9) (hR9 : rR ≠ 9) (hxl : xs.length = L.length)
    (hk : ∀ k, lv.ownBlock = some k → ρ k = rl) (hx : ∀ i, i < L.length → ∃ b c, xs[i]? = some (.slice (some ⟨b, 0, none⟩) 1 c) ∧ Msu ρ w b (L.getD i 0)) (hm : Msu ρ w g x)
    (hO : w'.ownsRow 0 35 1 v' (L.length + 1) (xs ++ [.slice (some ⟨g, 0, none⟩) 1 c])) (hg : w.grownBy w' lv.ownBlock) (hbk : v'.ownBlock = lv.ownBlock ∨ v'.ownBlock = some w.heap.size) :
    ∃ ρ' lv', Rcv ρ' (w'.setCell ⟨R, 0, none⟩ v') rR R lv' ∧ VL ρ' (w'.setCell ⟨R, 0, none⟩ v') rl lv' (L ++ [x]) ∧ Upd (fun r => r = rR ∨ r = rl) ρ w ρ' (w'.setCell ⟨R, 0, none⟩ v') := by
  obtain ⟨ρ', hv, u⟩ := VL.appended (L := L) (L2 := [x]) (r := rl) hf hl9 hk hx (fun i hi => by
    have : i = 0 := by simp at hi; omega
    subst this
    exact ⟨g, c, rfl, by simpa using hm⟩) hxl hO hg hbk
  have hR' := hR.keep u (by simpa using hne)
  have u1 : Upd (fun r => r = rR ∨ r = rl) ρ w ρ' w' := u.mono (fun r h => Or.inr h)
  have u2 : Upd (fun r => r = rR) ρ' w' ρ' (w'.setCell ⟨R, 0, none⟩ v') := (Upd.refl u.fresh).set v' (Or.inr hR'.1)
  exact ⟨ρ', v', hR'.set0 v', hv.keep u2 (by simpa using fun e => hne e.symm) (by simpa using fun e => hR9 e.symm), u1.set v' (Or.inr (Or.inl hR'.1))⟩
theorem recv_keep {ρa : Nat → Nat} (u : Upd (fun _ => False) ρ w ρa wa) (o : Obj) (k : Nat) (hk : k < w.heap.size) : (wa.alloc o).heap[k]? = w.heap[k]? :=
  (Below.heap_alloc wa o k (Nat.lt_of_lt_of_le hk u.size)).trans (u.keep k hk (fun h => h))

theorem receive_end {ρa : Nat → Nat} {rR rl R g c : Nat} {lv v' : Value} {L : List Int} {x : Int} {xs : List Value} (hR : Rcv ρ w rR R lv) (u : Upd (fun _ => False) ρ w ρa wa) (o : Obj) (hne : rR ≠ rl) (hl9 : rl ≠ 9) (hR9 : rR ≠ 9) (hxl : xs.length = L.length)
    (hk : ∀ k, lv.ownBlock = some k → ρ k = rl) (hx : ∀ i, i < L.length → ∃ b c, xs[i]? = some (.slice (some ⟨b, 0, none⟩) 1 c) ∧ Msu ρ w b (L.getD i 0)) (hm : Msu ρa wa g x) (ho : w.ownsRow 0 35 1 lv L.length xs)
    (hO : w'.ownsRow 0 35 1 v' (L.length + 1) (xs ++ [.slice (some ⟨g, 0, none⟩) 1 c])) (hg : (wa.alloc o).grownBy w' lv.ownBlock) (hbk : v'.ownBlock = lv.ownBlock ∨ v'.ownBlock = some (wa.alloc o).heap.size) :
    (∃ ρ' lv', Rcv ρ' (w'.setCell ⟨R, 0, none⟩ v') rR R lv' ∧ VL ρ' (w'.setCell ⟨R, 0, none⟩ v') rl lv' (L ++ [x]) ∧ Upd (fun r => r = rR ∨ r = rl) ρ w ρ' (w'.setCell ⟨R, 0, none⟩ v')) ∧
      w'.cell? ⟨R, 0, none⟩ = some lv ∧ w'.frozen? ⟨R, 0, none⟩ = false := by
  have ua : Upd (fun _ => False) ρ w ρa (wa.alloc o) := u.alloc o
  have hRa := hR.keep ua (fun h => h)
  have hka : ∀ k, lv.ownBlock = some k → ρa k = rl := fun k e => (ua.role k (owns_lt ho e)).trans (hk k e)
  have ub : Upd (fun _ => False) ρa wa ρa (wa.alloc o) := (Upd.refl u.fresh).alloc o
  obtain ⟨ρ', lv', h1, h2, h3⟩ := received ua.fresh hRa hne hl9 hR9 hxl hka (fun i hi => by
    obtain ⟨b, c, e1, e2⟩ := hx i hi
    exact ⟨b, c, e1, e2.keep ua (fun h => h)⟩) (hm.keep ub (fun h => h)) hO hg hbk
  have hb := hg.block R hRa.2.lt (rcv_ne hRa hka hne)
  exact ⟨⟨ρ', lv', h1, h2, (ua.mono (fun _ h => h.elim)).trans h3⟩, (World.cell?_of_block hb).trans (hRa.2.cell (by omega)), (World.frozen?_of_block hb).trans (hRa.2.frozen 0)⟩
end

set_option maxHeartbeats 1000000 in
theorem receive_any (ρ : Nat → Nat) (w : World) (R rR rl b c : Nat) (x : Int) (lv : Value) (L : List Int) (hf : Fresh ρ w) (hR : Rcv ρ w rR R lv) (hL : VL ρ w rl lv L) (hm : Msu ρ w b x) (hlen : L.length ≤ 100000) (hne : rR ≠ rl) (hl9 : rl ≠ 9) (hR9 : rR ≠ 9) :
    Calls Yba.prog 52 #[.pointer (some ⟨R, 0, none⟩), .slice (some ⟨b, 0, none⟩) 1 c] w fun e w' => e = .returned (.tuple #[]) ∧
      ∃ ρ' lv', Rcv ρ' w' rR R lv' ∧ VL ρ' w' rl lv' (L ++ [x]) ∧ Upd (fun r => r = rR ∨ r = rl) ρ w ρ' w' := by
  obtain ⟨i0, hi, hz0, hz1, hz2⟩ := info_parts info35
  obtain ⟨i5, hi5, hz50, hz51, hz52⟩ := info_parts info5
  have HR : Hid (Rcv ρ w rR R lv) := hR
  have HL : Hid (VL ρ w rl lv L) := hL
  have HM : Hid (Msu ρ w b x) := hm
  have HF : Hid (Fresh ρ w) := hf
  clear hR hL hm hf
  have c0 : w.cell? ⟨R, 0, none⟩ = some lv := HR.out.2.cell (by omega)
  go_enter Yba.func52, Yba.ntmps52
  go_upto_region 0 with fail
  obtain ⟨xs, ho, hxl, hk, hx⟩ := vl_owns HL.out
  have HX : Hid (w.ownsRow 0 35 1 lv L.length xs ∧ xs.length = L.length ∧ (∀ k, lv.ownBlock = some k → ρ k = rl) ∧ ∀ i, i < L.length → ∃ b c, xs[i]? = some (.slice (some ⟨b, 0, none⟩) 1 c) ∧ Msu ρ w b (L.getD i 0)) := ⟨ho, hxl, hk, hx⟩
  clear ho hxl hk hx
  go_region_law (first | (refine step_append_own rfl (.const (.slice none 0 0)) (.tmp 9) 35 rfl 0 5 i5 (.int .u8 0) 1 1 Yba.underlying35 hi5 hz50 hz51 hz52 rfl (by decide) (.slice none 0 0) 0 [] rfl ⟨rfl, Or.inl ⟨rfl, rfl⟩⟩ ⟨b, 0, none⟩ 1 c [.int .u8 x] rfl rfl (fun j u h => msu_src HM.out j u h) (one1 _ rfl) (by unfold maxLen; omega) (by omega) (Nat.zero_le _) ?_; intro v10 wa hO hg hn hbk; obtain ⟨g10, c10, rfl, ρa, ua, ma⟩ := msu_new HF.out hO ⟨hg.os, hg.tape, hg.output, hg.size, hg.block⟩ (fun e => absurd (hn.1 e).2 (by decide)) hbk; have UA : Hid (Upd (fun _ => False) ρ w ρa wa) := ua; have MA : Hid (Msu ρa wa g10 x) := ma; clear hO hg hn hbk ua ma; have c0a : wa.cell? ⟨R, 0, none⟩ = some lv := (HR.out.keep UA.out (by simp)).2.cell (by omega); have c0b : ∀ o, (wa.alloc o).cell? ⟨R, 0, none⟩ = some lv := fun o => ((HR.out.keep UA.out (by simp)).2.alloc o).cell (by omega)) | (refine step_append_own rfl (.tmp 8) (.tmp 11) 27 rfl 0 35 i0 (.slice none 0 0) 1 24 Yba.underlying27 hi hz0 hz1 hz2 rfl (by decide) lv L.length xs rfl (owns_of_block HX.out.1 (fun k e hl => (recv_keep UA.out _ k hl))) ⟨wa.heap.size, 0, none⟩ 1 1 [.slice (some ⟨g10, 0, none⟩) 1 c10] rfl rfl (fun j u h => cell_one_new wa _ _ j u h) (one1 _ rfl) (by unfold maxLen; omega) (by omega) (Nat.zero_le _) ?_; intro v' w' hO hg hn hbk; obtain ⟨gq, cq, rfl⟩ := owns_shape hO (fun e => absurd (hn.1 e).2 (by decide)); have HD := receive_end (R := R) HR.out UA.out (.cells #[.slice (some ⟨g10, 0, none⟩) 1 c10] 35) hne hl9 hR9 HX.out.2.1 HX.out.2.2.1 HX.out.2.2.2 MA.out HX.out.1 hO ⟨hg.os, hg.tape, hg.output, hg.size, hg.block⟩ hbk; have c9 : w'.cell? ⟨R, 0, none⟩ = some lv := HD.2.1; have f9 : w'.frozen? ⟨R, 0, none⟩ = false := HD.2.2; have HE : Hid _ := HD.1; clear HD hO hg hn hbk))
  all_goals go_end0
  all_goals exact ⟨rfl, HE.out⟩
end Go.Proofs.Ybulkceww.Pipe
