/-
  LawS4052AScript: pop.
-/
import Derived.Test.YbulkcewwDeliver
namespace Go.Proofs.Ybulkceww.Pipe
open Go.RowKit
set_option linter.unusedVariables false
set_option maxRecDepth 100000

def z2 : Nat → Value | 0 => .pointer none | _ => .slice none 0 0
def it2 (e b c : Nat) : Nat → Value | 0 => .pointer (some ⟨e, 0, none⟩) | _ => .slice (some ⟨b, 0, none⟩) 1 c
def S16 : Nat → Prop := fun r => r = 1 ∨ r = 6

/-- The row of the queue: its first n entries. -/
def QR (w : World) (g cap : Nat) (f : Nat → Value) (n : Nat) : Prop := ∃ cur : Array Value, w.heap[g]? = some (.cells cur 59 (0, 0)) ∧ cur.size = cap * 2 ∧ ∀ i, i < n * 2 → cur[i]? = some (f i)

/-- While pop runs: w: where it began; the result's variable lies at w's end. -/
structure PopS (ρ : Nat → Nat) (w wx : World) (P g cap e b c b3 : Nat) (m0 m1 : Int) (iv : Value) (nx : Int) (dl : Bool) (f : Nat → Value) (n : Nat) : Prop where
  u : Upd S16 ρ w ρ wx
  r2 : wx.rowIs w.heap.size 59 2 z2
  r3 : wx.rowIs b3 59 2 (it2 e b c)
  lt : w.heap.size < b3
  p : Pip ρ wx P m0 m1 iv nx dl
  g6 : ρ g = 6
  gl : g < w.heap.size
  pl : P < w.heap.size
  q : QR wx g cap f n

section
variable {ρ : Nat → Nat} {w wx : World} {P g cap e b c b3 : Nat} {m0 m1 : Int} {iv : Value} {nx : Int} {dl : Bool} {f : Nat → Value} {n : Nat}

theorem QR.cell (h : QR wx g cap f n) {i : Nat} (hi : i < n * 2) : wx.cell? ⟨g, i, none⟩ = some (f i) := by
  obtain ⟨cur, hg, _, hc⟩ := h
  simp [World.cell?, hg, hc i hi]
theorem QR.frozen (h : QR wx g cap f n) (i : Nat) : wx.frozen? ⟨g, i, none⟩ = false := by
  obtain ⟨cur, hg, _, _⟩ := h
  simp [World.frozen?, hg]
theorem QR.lt (h : QR wx g cap f n) : g < wx.heap.size := by
  obtain ⟨cur, hg, _, _⟩ := h
  exact (Array.getElem?_eq_some_iff.1 hg).1
theorem QR.of_block {wy : World} (h : QR wx g cap f n) (e : wy.heap[g]? = wx.heap[g]?) : QR wy g cap f n := by
  obtain ⟨cur, hg, h1, h2⟩ := h
  exact ⟨cur, e.trans hg, h1, h2⟩
theorem QR.set (h : QR wx g cap f n) (i : Nat) (v : Value) : QR (wx.setCell ⟨g, i, none⟩ v) g cap (fun j => if j = i then v else f j) n := by
  obtain ⟨cur, hg, h1, h2⟩ := h
  refine ⟨cur.setIfInBounds i v, by simp [World.setCell, Array.getElem?_modify, hg], by simpa using h1, fun j hj => ?_⟩
  rw [Array.getElem?_setIfInBounds]
  have := h2 j hj
  by_cases e : i = j
  · subst e
    have : i < cur.size := (Array.getElem?_eq_some_iff.1 this).1
    simp [this]
  · rw [if_neg e]; show cur[j]? = some (if j = i then v else f j); rw [if_neg (fun h => e h.symm)]; exact this

theorem PopS.alloc (h : PopS ρ w wx P g cap e b c b3 m0 m1 iv nx dl f n) (o : Obj) : PopS ρ w (wx.alloc o) P g cap e b c b3 m0 m1 iv nx dl f n :=
  { h with u := h.u.alloc o, r2 := h.r2.alloc o, r3 := h.r3.alloc o, p := ⟨h.p.1, h.p.2.alloc o⟩, q := h.q.of_block (Below.heap_alloc _ _ _ h.q.lt) }
theorem PopS.same {wy : World} (h : PopS ρ w wx P g cap e b c b3 m0 m1 iv nx dl f n) (u : Upd S16 ρ w ρ wy) (hh : wy.heap = wx.heap) : PopS ρ w wy P g cap e b c b3 m0 m1 iv nx dl f n :=
  { h with u := u, r2 := h.r2.of_block (by rw [hh]), r3 := h.r3.of_block (by rw [hh]), p := ⟨h.p.1, h.p.2.of_block (by rw [hh])⟩, q := h.q.of_block (by rw [hh]) }
theorem PopS.ne (h : PopS ρ w wx P g cap e b c b3 m0 m1 iv nx dl f n) : P ≠ g ∧ P ≠ w.heap.size ∧ P ≠ b3 ∧ g ≠ w.heap.size ∧ g ≠ b3 := by
  have h1 := h.p.1
  have h6 := h.g6
  have hP := h.pl
  have := h.lt
  have := h.gl
  refine ⟨fun e => ?_, by omega, by omega, by omega, by omega⟩
  rw [e, h6] at h1; exact absurd h1 (by decide)
theorem PopS.setq (h : PopS ρ w wx P g cap e b c b3 m0 m1 iv nx dl f n) (i : Nat) (v : Value) : PopS ρ w (wx.setCell ⟨g, i, none⟩ v) P g cap e b c b3 m0 m1 iv nx dl (fun j => if j = i then v else f j) n :=
  { h with u := h.u.set v (Or.inr (by show S16 (ρ g); rw [h.g6]; exact Or.inr rfl)), r2 := h.r2.setOther (Ne.symm h.ne.2.2.2.1) _, r3 := h.r3.setOther (Ne.symm h.ne.2.2.2.2) _, p := ⟨h.p.1, h.p.2.setOther h.ne.1 _⟩, q := h.q.set i v }
theorem PopS.set5 (h : PopS ρ w wx P g cap e b c b3 m0 m1 iv nx dl f n) (x : Int) : PopS ρ w (wx.setCell ⟨P, 5, none⟩ (.int .i64 x)) P g cap e b c b3 m0 m1 iv x dl f n :=
  { h with u := h.u.set _ (Or.inr (by show S16 (ρ P); rw [h.p.1]; exact Or.inl rfl)), r2 := h.r2.setOther (Ne.symm h.ne.2.1) _, r3 := h.r3.setOther (Ne.symm h.ne.2.2.1) _, p := h.p.set5 x, q := h.q.of_block (Below.heap_setCell _ _ _ _ (Ne.symm h.ne.1)) }
theorem PopS.set4 (h : PopS ρ w wx P g cap e b c b3 m0 m1 iv nx dl f n) (x : Value) : PopS ρ w (wx.setCell ⟨P, 4, none⟩ x) P g cap e b c b3 m0 m1 x nx dl f n :=
  { h with u := h.u.set _ (Or.inr (by show S16 (ρ P); rw [h.p.1]; exact Or.inl rfl)), r2 := h.r2.setOther (Ne.symm h.ne.2.1) _, r3 := h.r3.setOther (Ne.symm h.ne.2.2.1) _, p := h.p.set4 x, q := h.q.of_block (Below.heap_setCell _ _ _ _ (Ne.symm h.ne.1)) }

theorem PopS.qs {rest : List (Value × Value)} {nx' : Nat} (h : PopS ρ w wx P g cap e b c b3 m0 m1 iv nx dl f n) (hn : nx' + rest.length ≤ n) (hc : n ≤ cap) (hm : cap ≤ maxLen) (hF : ∀ i, i < rest.length → rest[i]? = some (f (2 * (nx' + i)), f (2 * (nx' + i) + 1))) :
    QS ρ wx (.slice (some ⟨g, 0, none⟩) (nx' + rest.length) cap) nx' rest := by
  obtain ⟨cur, hg, h1, h2⟩ := h.q
  refine ⟨cur.toList.take ((nx' + rest.length) * 2), ⟨by simp; omega, Or.inr ⟨g, cap, cur, rfl, Nat.zero_le _, hg, by omega, hm, h1, rfl⟩⟩, fun k e => by simp [Value.ownBlock] at e; subst e; exact h.g6, fun i hi => ?_⟩
  have e1 := h2 (2 * (nx' + i)) (by omega)
  have e2 := h2 (2 * (nx' + i) + 1) (by omega)
  rw [List.getElem?_take_of_lt (by omega), List.getElem?_take_of_lt (by omega), hF i hi]
  simpa using ⟨e1, e2⟩

theorem qs_open {N : Nat} {ms : List (Value × Value)} {nx : Nat} (h : QS ρ w (.slice (some ⟨g, 0, none⟩) N cap) nx ms) (hN : N = nx + ms.length) :
    ρ g = 6 ∧ N ≤ cap ∧ cap ≤ maxLen ∧ ∃ f, QR w g cap f N ∧ ∀ i, i < ms.length → ms[i]? = some (f (2 * (nx + i)), f (2 * (nx + i) + 1)) := by
  obtain ⟨xs, ho, hk, hx⟩ := h
  rcases ho.2 with ⟨h1, _⟩ | ⟨g', cap', cur, hv, _, hg, hnc, hm, hs, ht⟩
  · simp at h1
  simp at hv
  obtain ⟨rfl, _, rfl⟩ := hv
  refine ⟨hk g rfl, by omega, hm, fun i => cur.getD i (.pointer none), ⟨cur, hg, hs, fun i hi => ?_⟩, fun i hi => ?_⟩
  · have : i < cur.size := by omega
    simp [this]
  · obtain ⟨e1, e2⟩ := hx i hi
    have hlt1 : 2 * (nx + i) < cur.size := by omega
    have hlt2 : 2 * (nx + i) + 1 < cur.size := by omega
    rw [← ht, List.getElem?_take_of_lt (by omega)] at e1 e2
    rw [List.getElem?_eq_getElem hi] at e1 e2 ⊢
    simp [hlt1] at e1
    simp [hlt2] at e2
    simp [hlt1, hlt2, e1, e2]
end


/-- Only row g has turned. -/
structure RowChg (w w' : World) (g : Nat) (cur : Array Value) : Prop where
  os : w'.os = w.os
  tape : w'.tape = w.tape
  output : w'.output = w.output
  size : w'.heap.size = w.heap.size
  at_ : w'.heap[g]? = some (.cells cur 59 (0, 0))
  other : ∀ b, b ≠ g → w'.heap[b]? = w.heap[b]?

theorem rowChg_setRow {w : World} {g : Nat} {cur : Array Value} (hg : w.heap[g]? = some (.cells cur 59 (0, 0))) (cs : Array Value) : RowChg w (w.setRow g cs) g cs :=
  ⟨rfl, rfl, rfl, by simp, setRow_heap w g _ _ 59 _ hg, fun b hb => setRow_other w g b cs hb⟩
theorem rowChg_refl {w : World} {g : Nat} {cur : Array Value} (hg : w.heap[g]? = some (.cells cur 59 (0, 0))) : RowChg w w g cur := ⟨rfl, rfl, rfl, rfl, hg, fun _ _ => rfl⟩

theorem PopS.chg {ρ : Nat → Nat} {w wx wy : World} {P g cap e b c b3 : Nat} {m0 m1 : Int} {iv : Value} {nx : Int} {dl : Bool} {f f' : Nat → Value} {n n' : Nat} {cur : Array Value} (h : PopS ρ w wx P g cap e b c b3 m0 m1 iv nx dl f n) (hc : RowChg wx wy g cur) (hs : cur.size = cap * 2)
    (hf : ∀ i, i < n' * 2 → cur[i]? = some (f' i)) : PopS ρ w wy P g cap e b c b3 m0 m1 iv nx dl f' n' :=
  { h with
    u := ⟨hc.os.trans h.u.os, hc.tape.trans h.u.tape, hc.output.trans h.u.output, by rw [hc.size]; exact h.u.size, h.u.role, fun k hk hn => (hc.other k (fun e => hn (by rw [e, h.g6]; exact Or.inr rfl))).trans (h.u.keep k hk hn), fun k hk => h.u.fresh k (by rw [hc.size] at hk; exact hk)⟩
    r2 := h.r2.of_block (hc.other _ (Ne.symm h.ne.2.2.2.1)), r3 := h.r3.of_block (hc.other _ (Ne.symm h.ne.2.2.2.2)), p := ⟨h.p.1, h.p.2.of_block (hc.other _ h.ne.1)⟩, q := ⟨cur, hc.at_, hs, hf⟩ }

theorem step_copy2 {P : Program} {ops : Array Oper} {o : Oper} {a : Act} {w : World} {K : Act → World → Prop} {Q : Exit → Act → World → Prop} {E : Prop}
    (hgd : o.guard = none) (d s : Operand) (ho : o.op = .call { callee := .builtin .copy, args := #[d, s], argTypes := #[50, 50] }) (hu : P.underlying 50 = some (.slice 59)) (hsz : (P.info? 59).map (·.size) = some 2)
    (g N cap sLen sCap : Nat) (sp : Option Addr) (hd : a.eval d = .slice (some ⟨g, 0, none⟩) N cap) (hs : a.eval s = .slice sp sLen sCap) (hle : sLen ≤ N) (ad : Addr) (hsp : sp = some ad)
    (cur : Array Value) (hg : w.heap[g]? = some (.cells cur 59 (0, 0))) (cs : List Value) (hcs : cs.length = sLen * 2) (hsrc : ∀ j v, cs[j]? = some v → w.cell? (ad.add j) = some v) (hfit : cs.length ≤ cur.size) (h1 : ∀ v ∈ cs, v.oneCell' = true)
    (h : ∀ w', RowChg w w' g (cs ++ cur.toList.drop cs.length).toArray → K (a.put o.dst (goInt sLen)) w') :
    if Region.wanted o (yielded ops a.tmps) = true then Oper.wp P o a w K Q else E := by
  have hw : Region.wanted o (yielded ops a.tmps) = true := by simp [Region.wanted, hgd]
  rw [if_pos hw]
  subst hsp
  have hrun : (Builtin.copy_ #[50, 50] o.type #[.slice (some ⟨g, 0, none⟩) N cap, .slice (some ad) sLen sCap]).run P w = .ok (goInt sLen) (w.setRow g (cs ++ cur.toList.drop cs.length).toArray) := by
    have hl := run_loadCells_list (P := P) w ad cs hsrc
    have hst := run_storeCells_at P g 0 59 cs 0 cur w hg (by simpa using hfit) h1
    rw [hcs] at hl
    have hmin : min sLen N = sLen := Nat.min_eq_left hle
    cases hq : P.info? 59 with
    | none => simp [hq] at hsz
    | some i =>
      have hi : i.size = 2 := by simpa [hq] using hsz
      simp [Builtin.copy_, run_underlying hu, Builtin.lenOf, Builtin.firstCells, sizeOf, typeInfo, hq, hi, hmin, hl, hst]
  unfold Oper.wp execOp
  simp only [ho, resolve, invoke, builtin, Sem.run_bind, Sem.run_pure, Result.andThen_ok, List.map_toArray, List.map_cons, List.map_nil, hd, hs, hrun]
  exact h _ (rowChg_setRow hg _)

theorem step_clear2 {P : Program} {ops : Array Oper} {o : Oper} {a : Act} {w : World} {K : Act → World → Prop} {Q : Exit → Act → World → Prop} {E : Prop}
    (hgd : o.guard = none) (s : Operand) (ho : o.op = .call { callee := .builtin .clear, args := #[s], argTypes := #[50] }) (hu : P.underlying 50 = some (.slice 59)) (hzv : ∀ w, (zeroValue 59).run P w = .ok (.agg #[.pointer none, .slice none 0 0]) w)
    (g off n cap : Nat) (sp : Option Addr) (hs : a.eval s = .slice sp n cap) (hsp : 0 < n → sp = some ⟨g, off, none⟩)
    (cur : Array Value) (hg : w.heap[g]? = some (.cells cur 59 (0, 0))) (hfit : off + n * 2 ≤ cur.size)
    (h : ∀ w' cur', RowChg w w' g cur' → cur'.size = cur.size → (∀ i, i < off → cur'[i]? = cur[i]?) → K (a.put o.dst (.tuple #[])) w') :
    if Region.wanted o (yielded ops a.tmps) = true then Oper.wp P o a w K Q else E := by
  have hw : Region.wanted o (yielded ops a.tmps) = true := by simp [Region.wanted, hgd]
  rw [if_pos hw]
  have hrun : ∃ w' cur', (Builtin.clear_ #[50] o.type #[.slice sp n cap]).run P w = .ok (.tuple #[]) w' ∧ RowChg w w' g cur' ∧ cur'.size = cur.size ∧ ∀ i, i < off → cur'[i]? = cur[i]? := by
    by_cases h0 : n = 0
    · subst h0
      refine ⟨w, cur, ?_, rowChg_refl hg, rfl, fun _ _ => rfl⟩
      cases sp <;> simp [Builtin.clear_, run_underlying hu]
    · obtain ⟨m, rfl⟩ : ∃ m, n = m + 1 := ⟨n - 1, by omega⟩
      rw [hsp (by omega)]
      obtain ⟨zs, hzs⟩ : ∃ zs, zs = (Builtin.zeroCells (Value.agg #[.pointer none, .slice none 0 0]).cells (m + 1)).toList := ⟨_, rfl⟩
      have hzl : zs.length = (m + 1) * 2 := by rw [hzs]; simp [Builtin.zeroCells, Value.cells]
      have hz1 : ∀ v ∈ zs, v.oneCell' = true := by
        intro v hv
        rw [hzs] at hv
        simp [Builtin.zeroCells, Value.cells] at hv
        obtain ⟨j, _, rfl⟩ := hv
        rcases Nat.mod_two_eq_zero_or_one j with h | h <;> rw [h] <;> rfl
      have hst := run_storeCells_at P g off 59 zs 0 cur w hg (by simp [hzl]; omega) hz1
      refine ⟨w.setRow g (cur.toList.take off ++ zs ++ cur.toList.drop (off + zs.length)).toArray, (cur.toList.take off ++ zs ++ cur.toList.drop (off + zs.length)).toArray, ?_, rowChg_setRow hg _, by simp [hzl]; omega, fun i hi => ?_⟩
      · simp only [Nat.add_zero] at hst
        simp [Builtin.clear_, run_underlying hu, hzv, ← hzs, hst]
      · have : i < cur.size := by omega
        simp [List.getElem?_append, hi]
        omega
  obtain ⟨w', cur', hr, k1, k2, k3⟩ := hrun
  unfold Oper.wp execOp
  simp only [ho, resolve, invoke, builtin, Sem.run_bind, Sem.run_pure, Result.andThen_ok, List.map_toArray, List.map_cons, List.map_nil, hs, hr]
  exact h _ _ k1 k2 k3

def copied (f : Nat → Value) (nx m : Nat) : List Value := (List.range (m * 2)).map (fun i => f ((nx + 1) * 2 + i))
theorem copied_len' (f : Nat → Value) (nx m : Nat) : (copied f nx m).length = m * 2 := by simp [copied]
theorem copied_len (f : Nat → Value) (nx m : Nat) : (copied f nx m).length = (nx + (m + 1) - (nx + 1)) * 2 := by rw [copied_len']; omega
theorem copied_src {w : World} {g nx m : Nat} {f : Nat → Value} {cur : Array Value} {sp : Addr} (hg : w.heap[g]? = some (.cells cur 59 (0, 0))) (hc : ∀ i, i < (nx + (m + 1)) * 2 → cur[i]? = some (f i)) (hsp : 0 < m → sp = ⟨g, (nx + 1) * 2, none⟩) :
    ∀ j v, (copied f nx m)[j]? = some v → w.cell? (sp.add j) = some v := by
  intro j v hj
  have hlt : j < m * 2 := by have := (List.getElem?_eq_some_iff.1 hj).1; rwa [copied_len'] at this
  rw [hsp (by omega), Addr.add_lit]
  simp [copied, hlt] at hj
  simp [World.cell?, hg, hc _ (show (nx + 1) * 2 + j < (nx + (m + 1)) * 2 by omega), hj]
theorem copied_one {rest : List (Value × Value)} {f : Nat → Value} {nx m : Nat} (hF : ∀ i, i < m → rest[i]? = some (f (2 * (nx + 1 + i)), f (2 * (nx + 1 + i) + 1))) (hm : m = rest.length) (h1 : ∀ x ∈ rest, x.1.oneCell' = true ∧ x.2.oneCell' = true) : ∀ v ∈ copied f nx m, v.oneCell' = true := by
  intro v hv
  obtain ⟨i, hi, rfl⟩ := List.mem_map.1 hv
  have hi' : i < m * 2 := List.mem_range.1 hi
  have e := hF (i / 2) (by omega)
  have hmem := h1 _ (List.mem_of_getElem? e)
  rcases Nat.mod_two_eq_zero_or_one i with h | h
  · have : (nx + 1) * 2 + i = 2 * (nx + 1 + i / 2) := by omega
    rw [this]; exact hmem.1
  · have : (nx + 1) * 2 + i = 2 * (nx + 1 + i / 2) + 1 := by omega
    rw [this]; exact hmem.2
theorem copied_size {cap nx m : Nat} (f : Nat → Value) {cur : Array Value} (hs : cur.size = cap * 2) (hle : m ≤ cap) : ((copied f nx m ++ cur.toList.drop (copied f nx m).length).toArray).size = cap * 2 := by
  simp [copied_len']; omega
theorem copied_get (f : Nat → Value) (cur : Array Value) (nx m : Nat) : ∀ i, i < m * 2 → ((copied f nx m ++ cur.toList.drop (copied f nx m).length).toArray)[i]? = some (f ((nx + 1) * 2 + i)) := by
  intro i hi
  rw [List.getElem?_toArray, List.getElem?_append_left (by rw [copied_len']; exact hi)]
  simp [copied, hi]

set_option maxHeartbeats 4000000 in
theorem pop_any (ρ : Nat → Nat) (w : World) (P g cap : Nat) (m0 m1 : Int) (nx : Nat) (dl : Bool) (e b c : Nat) (rest : List (Value × Value)) (hf : Fresh ρ w)
    (hp : Pip ρ w P m0 m1 (.slice (some ⟨g, 0, none⟩) (nx + (rest.length + 1)) cap) nx dl) (hq : QS ρ w (.slice (some ⟨g, 0, none⟩) (nx + (rest.length + 1)) cap) nx ((.pointer (some ⟨e, 0, none⟩), .slice (some ⟨b, 0, none⟩) 1 c) :: rest)) (hlen : nx + (rest.length + 1) ≤ 100000)
    (h1c : ∀ m ∈ rest, m.1.oneCell' = true ∧ m.2.oneCell' = true) :
    Calls Yba.prog 21 #[.pointer (some ⟨P, 4, none⟩)] w fun x w' => x = .returned (.agg #[.pointer (some ⟨e, 0, none⟩), .slice (some ⟨b, 0, none⟩) 1 c]) ∧
      ∃ iv' nx', Pip ρ w' P m0 m1 iv' (nx' : Nat) dl ∧ QS ρ w' iv' nx' rest ∧ nx' ≤ nx + 1 ∧ (rest = [] → nx' = 0) ∧ Upd S16 ρ w ρ w' := by
  obtain ⟨m, hm⟩ : ∃ m, m = rest.length := ⟨_, rfl⟩
  rw [← hm] at hp hq hlen
  obtain ⟨g6, hNc, hcm, f, hqr, hF⟩ := qs_open hq (by simp [hm])
  have HF0 : Hid (f (nx * 2) = .pointer (some ⟨e, 0, none⟩) ∧ f (nx * 2 + 1) = .slice (some ⟨b, 0, none⟩) 1 c ∧ ∀ i, i < m → rest[i]? = some (f (2 * (nx + 1 + i)), f (2 * (nx + 1 + i) + 1))) := by
    have h0 := hF 0 (by simp)
    simp at h0
    refine ⟨by rw [show nx * 2 = 2 * nx by omega]; exact h0.1.symm, by rw [show nx * 2 = 2 * nx by omega]; exact h0.2.symm, fun i hi => ?_⟩
    have := hF (i + 1) (by simp; omega)
    simpa [show nx + (i + 1) = nx + 1 + i by omega] using this
  have HM : Hid (m = rest.length) := hm
  have H1C : Hid (∀ m ∈ rest, m.1.oneCell' = true ∧ m.2.oneCell' = true) := h1c
  have HP : Hid (Pip ρ w P m0 m1 (.slice (some ⟨g, 0, none⟩) (nx + (m + 1)) cap) nx dl) := hp
  have HQ : Hid (QR w g cap f (nx + (m + 1))) := hqr
  have HF : Hid (Fresh ρ w) := hf
  have HG : Hid (ρ g = 6) := g6
  clear hp hq hf hqr hF g6 hm h1c
  go_enter Yba.func21, Yba.ntmps21
  go_upto_region 1 with fail
  go_cut [3] (fun v wx => ∃ b3 : Nat, v = .pointer (some ⟨b3, 0, none⟩) ∧ Hid (PopS ρ w wx P g cap e b c b3 m0 m1 (.slice (some ⟨g, 0, none⟩) (nx + (m + 1)) cap) nx dl f (nx + (m + 1))))
  case first => as_aux_lemma =>
    have UU : Hid (Upd S16 ρ w ρ (w.alloc (.cells #[.pointer none, .slice none 0 0] 59))) := (Upd.refl HF.out).alloc _
    have PP : Hid (Pip ρ (w.alloc (.cells #[.pointer none, .slice none 0 0] 59)) P m0 m1 (.slice (some ⟨g, 0, none⟩) (nx + (m + 1)) cap) nx dl) := ⟨HP.out.1, HP.out.2.alloc _⟩
    have QQ : Hid (QR (w.alloc (.cells #[.pointer none, .slice none 0 0] 59)) g cap f (nx + (m + 1))) := HQ.out.of_block (Below.heap_alloc _ _ _ HQ.out.lt)
    have RR : Hid ((w.alloc (.cells #[.pointer none, .slice none 0 0] 59)).rowIs w.heap.size 59 2 z2) := World.rowIs_alloc w #[.pointer none, .slice none 0 0] 59 z2 (fun i hi => by match i, hi with | 0, _ | 1, _ => rfl)
    have SS : Hid (w.heap.size < (w.alloc (.cells #[.pointer none, .slice none 0 0] 59)).heap.size) := by show _ < _; simp
    have hPl : Hid (P < w.heap.size) := HP.out.2.lt
    have hgl : Hid (g < w.heap.size) := HQ.out.lt
    generalize w.alloc (.cells #[.pointer none, .slice none 0 0] 59) = w1 at *
    have c4 : w1.cell? ⟨P, 4, none⟩ = some (.slice (some ⟨g, 0, none⟩) (nx + (m + 1)) cap) := PP.out.2.cell (by omega)
    have c5 : w1.cell? ⟨P, 5, none⟩ = some (.int .i64 nx) := PP.out.2.cell (by omega)
    have q0 : w1.cell? ⟨g, nx * 2, none⟩ = some (.pointer (some ⟨e, 0, none⟩)) := by rw [QQ.out.cell (by omega), HF0.out.1]
    have q1 : w1.cell? ⟨g, nx * 2 + 1, none⟩ = some (.slice (some ⟨b, 0, none⟩) 1 c) := by rw [QQ.out.cell (by omega), HF0.out.2.1]
    have c4' : ∀ o, (w1.alloc o).cell? ⟨P, 4, none⟩ = some (.slice (some ⟨g, 0, none⟩) (nx + (m + 1)) cap) := fun o => (PP.out.2.alloc o).cell (by omega)
    have c5' : ∀ o, (w1.alloc o).cell? ⟨P, 5, none⟩ = some (.int .i64 nx) := fun o => (PP.out.2.alloc o).cell (by omega)
    have q0' : ∀ o, (w1.alloc o).cell? ⟨g, nx * 2, none⟩ = some (.pointer (some ⟨e, 0, none⟩)) := fun o => (World.cell?_of_block (Below.heap_alloc _ _ _ QQ.out.lt)).trans q0
    have q1' : ∀ o, (w1.alloc o).cell? ⟨g, nx * 2 + 1, none⟩ = some (.slice (some ⟨b, 0, none⟩) 1 c) := fun o => (World.cell?_of_block (Below.heap_alloc _ _ _ QQ.out.lt)).trans q1
    go_region
    go_wp2
    go_meet
    refine ⟨w1.heap.size, rfl, (PopS.same (wx := w1.alloc (.cells #[.pointer (some ⟨e, 0, none⟩), .slice (some ⟨b, 0, none⟩) 1 c] 59)) ?_ (UU.out.alloc _).drew rfl)⟩
    exact { u := UU.out.alloc _, r2 := RR.out.alloc _, r3 := World.rowIs_alloc w1 _ 59 _ (fun i hi => by match i, hi with | 0, _ | 1, _ => rfl), lt := SS.out, p := ⟨PP.out.1, PP.out.2.alloc _⟩, g6 := HG.out, gl := hgl.out, pl := hPl.out, q := QQ.out.of_block (Below.heap_alloc _ _ _ QQ.out.lt) }
  case rest =>
  obtain ⟨b3, rfl, HS⟩ := hcut
  clear HP HQ HG
  go_upto_region 3 with fail
  have HS1 : Hid (PopS ρ w (wc.alloc (.cells #[.pointer none, .slice none 0 0] 59)) P g cap e b c b3 m0 m1 (.slice (some ⟨g, 0, none⟩) (nx + (m + 1)) cap) nx dl f (nx + (m + 1))) := HS.out.alloc _
  have d0 : (wc.alloc (.cells #[.pointer none, .slice none 0 0] 59)).cell? ⟨wc.heap.size, 0, none⟩ = some (.pointer none) := by simp
  have d1 : (wc.alloc (.cells #[.pointer none, .slice none 0 0] 59)).cell? ⟨wc.heap.size, 1, none⟩ = some (.slice none 0 0) := by simp
  clear HS
  generalize wc.alloc (.cells #[.pointer none, .slice none 0 0] 59) = w3 at *
  go_cut [] (fun wx => Hid (PopS ρ w wx P g cap e b c b3 m0 m1 (.slice (some ⟨g, 0, none⟩) (nx + (m + 1)) cap) nx dl (fun j => if j = nx * 2 + 1 then .slice none 0 0 else if j = nx * 2 then .pointer none else f j) (nx + (m + 1))))
  case first => as_aux_lemma =>
    have c4 : w3.cell? ⟨P, 4, none⟩ = some (.slice (some ⟨g, 0, none⟩) (nx + (m + 1)) cap) := HS1.out.p.2.cell (by omega)
    have c5 : w3.cell? ⟨P, 5, none⟩ = some (.int .i64 nx) := HS1.out.p.2.cell (by omega)
    have q0 : w3.cell? ⟨g, nx * 2, none⟩ = some (.pointer (some ⟨e, 0, none⟩)) := by rw [HS1.out.q.cell (by omega), HF0.out.1]
    have q1 : w3.cell? ⟨g, nx * 2 + 1, none⟩ = some (.slice (some ⟨b, 0, none⟩) 1 c) := by rw [HS1.out.q.cell (by omega), HF0.out.2.1]
    have f0 : w3.frozen? ⟨g, nx * 2, none⟩ = false := HS1.out.q.frozen _
    have f1 : w3.frozen? ⟨g, nx * 2 + 1, none⟩ = false := HS1.out.q.frozen _
    go_region
    go_wp2
    go_meet
    exact ((HS1.out.setq _ _).setq _ _).same ((HS1.out.setq _ _).setq _ _).u.drew rfl
  case rest =>
  clear HS1 d0 d1
  have HS := hcut
  clear hcut
  obtain ⟨f2, hf2⟩ : ∃ f2, f2 = (fun j => if j = nx * 2 + 1 then Value.slice none 0 0 else if j = nx * 2 then .pointer none else f j) := ⟨_, rfl⟩
  rw [← hf2] at HS
  have HF2 : Hid (∀ i, i < m → rest[i]? = some (f2 (2 * (nx + 1 + i)), f2 (2 * (nx + 1 + i) + 1))) := by
    intro i hi
    rw [HF0.out.2.2 i hi, hf2]
    have e1 : ¬ 2 * (nx + 1 + i) = nx * 2 + 1 := by omega
    have e2 : ¬ 2 * (nx + 1 + i) = nx * 2 := by omega
    have e3 : ¬ 2 * (nx + 1 + i) + 1 = nx * 2 + 1 := by omega
    have e4 : ¬ 2 * (nx + 1 + i) + 1 = nx * 2 := by omega
    simp only [if_neg e1, if_neg e2, if_neg e3, if_neg e4]
  clear hf2 HF0
  have c5 : wc.cell? ⟨P, 5, none⟩ = some (.int .i64 nx) := HS.out.p.2.cell (by omega)
  have f5 : wc.frozen? ⟨P, 5, none⟩ = false := HS.out.p.2.frozen 5
  go_upto_region 5 with fail
  have HS5 : Hid (PopS ρ w (wc.setCell ⟨P, 5, none⟩ (.int .i64 ((nx : Int) + 1))) P g cap e b c b3 m0 m1 (.slice (some ⟨g, 0, none⟩) (nx + (m + 1)) cap) ((nx : Int) + 1) dl f2 (nx + (m + 1))) := HS.out.set5 _
  clear HS c5 f5
  generalize wc.setCell ⟨P, 5, none⟩ (.int .i64 ((nx : Int) + 1)) = w5 at *
  have c4 : w5.cell? ⟨P, 4, none⟩ = some (.slice (some ⟨g, 0, none⟩) (nx + (m + 1)) cap) := HS5.out.p.2.cell (by omega)
  have c5 : w5.cell? ⟨P, 5, none⟩ = some (.int .i64 ((nx : Int) + 1)) := HS5.out.p.2.cell (by omega)
  go_quiet (fail)
  go_upto_if 48 with fail
  have HS6 : Hid (PopS ρ w (w5.drewN nq) P g cap e b c b3 m0 m1 (.slice (some ⟨g, 0, none⟩) (nx + (m + 1)) cap) ((nx : Int) + 1) dl f2 (nx + (m + 1))) := HS5.out.same (HS5.out.u.drewN _) (World.heap_drewN _ _)
  clear HS5 c4 c5
  generalize w5.drewN nq = w6 at *
  have hsub : (nx : Int) + ((m : Int) + 1) - ((nx : Int) + 1) = (m : Int) := by omega
  rw [hsub]
  clear hsub
  go_cut [] (fun wx => Hid (∃ iv' nx' f' n', PopS ρ w wx P g cap e b c b3 m0 m1 iv' ((nx' : Nat) : Int) dl f' n' ∧ QS ρ wx iv' nx' rest ∧ nx' ≤ nx + 1 ∧ (m ≤ nx + 1 → nx' = 0)))
  case first =>
    by_cases hle : m ≤ nx + 1
    · have hle' : (m : Int) ≤ (nx : Int) + 1 := by omega
      go_upto_region 7 with fail
      have hsz : (Yba.prog.info? 59).map (·.size) = some 2 := by kernel_rfl
      have hbnd : 0 ≤ (nx : Int) + 1 ∧ 1 ≤ (m : Int) + 1 := by omega
      go_cut [] (fun wx => Hid (PopS ρ w wx P g cap e b c b3 m0 m1 (.slice (some ⟨g, 0, none⟩) (nx + (m + 1)) cap) ((nx : Int) + 1) dl (fun i => f2 ((nx + 1) * 2 + i)) m))
      case first =>
        have c4 : w6.cell? ⟨P, 4, none⟩ = some (.slice (some ⟨g, 0, none⟩) (nx + (m + 1)) cap) := HS6.out.p.2.cell (by omega)
        have c5 : w6.cell? ⟨P, 5, none⟩ = some (.int .i64 ((nx : Int) + 1)) := HS6.out.p.2.cell (by omega)
        obtain ⟨cur, hg, hcs, hcur⟩ := HS6.out.q
        have HQ : Hid (w6.heap[g]? = some (.cells cur 59 (0, 0)) ∧ cur.size = cap * 2 ∧ ∀ i, i < (nx + (m + 1)) * 2 → cur[i]? = some (f2 i)) := ⟨hg, hcs, hcur⟩
        clear hg hcs hcur
        obtain ⟨sp, hsp⟩ : ∃ sp : Addr, sp = (if cap = nx + 1 then ⟨g, 0, none⟩ else ⟨g, (nx + 1) * 2, none⟩) := ⟨_, rfl⟩
        have HSP : Hid ((if cap = nx + 1 then some (⟨g, 0, none⟩ : Addr) else some ⟨g, (nx + 1) * 2, none⟩) = some sp ∧ (0 < m → sp = ⟨g, (nx + 1) * 2, none⟩)) := by
          rw [hsp]
          refine ⟨by split <;> rfl, fun h => ?_⟩
          rw [if_neg (by omega)]
        clear hsp
        go_region_law (refine step_copy2 rfl (.tmp 52) (.tmp 61) rfl Yba.underlying50 hsz g (nx + (m + 1)) cap (nx + (m + 1) - (nx + 1)) (cap - (nx + 1)) _ rfl rfl (by omega) sp HSP.out.1 cur HQ.out.1 (copied f2 nx m) (copied_len f2 nx m) (copied_src HQ.out.1 HQ.out.2.2 HSP.out.2) (by rw [copied_len]; have := HQ.out.2.1; omega) (copied_one HF2.out HM.out H1C.out) ?_; intro w7 hch; have HD : Hid (PopS ρ w w7 P g cap e b c b3 m0 m1 (.slice (some ⟨g, 0, none⟩) (nx + (m + 1)) cap) ((nx : Int) + 1) dl (fun i => f2 ((nx + 1) * 2 + i)) m) := (HS6.out.same HS6.out.u.drew rfl).chg hch (copied_size f2 HQ.out.2.1 (by omega)) (copied_get f2 cur nx m); clear hch)
        all_goals go_wp2
        all_goals go_meet
        all_goals exact HD
      case rest =>
      clear HS6
      have HS7 := hcut
      clear hcut
      go_upto_region 8 with fail
      go_cut [] (fun wx => Hid (PopS ρ w wx P g cap e b c b3 m0 m1 (.slice (some ⟨g, 0, none⟩) (nx + (m + 1)) cap) ((nx : Int) + 1) dl (fun i => f2 ((nx + 1) * 2 + i)) m))
      case first =>
        have c4 : wc.cell? ⟨P, 4, none⟩ = some (.slice (some ⟨g, 0, none⟩) (nx + (m + 1)) cap) := HS7.out.p.2.cell (by omega)
        have c5 : wc.cell? ⟨P, 5, none⟩ = some (.int .i64 ((nx : Int) + 1)) := HS7.out.p.2.cell (by omega)
        obtain ⟨cur, hg, hcs, hcur⟩ := HS7.out.q
        have HQ : Hid (wc.heap[g]? = some (.cells cur 59 (0, 0)) ∧ cur.size = cap * 2 ∧ ∀ i, i < m * 2 → cur[i]? = some (f2 ((nx + 1) * 2 + i))) := ⟨hg, hcs, hcur⟩
        clear hg hcs hcur
        have HSP : Hid (0 < nx + (m + 1) - (nx + 1) → (if cap = nx + 1 then some (⟨g, 0, none⟩ : Addr) else some ⟨g, (nx + 1) * 2, none⟩) = some ⟨g, (nx + 1) * 2, none⟩) := fun h => if_neg (by omega)
        go_region_law (refine step_clear2 rfl (.tmp 71) rfl Yba.underlying50 Yba.zeroValue59 g ((nx + 1) * 2) (nx + (m + 1) - (nx + 1)) (cap - (nx + 1)) _ rfl HSP.out cur HQ.out.1 (by have := HQ.out.2.1; omega) ?_; intro w8 cur8 hch hs8 hk8; have HD : Hid (PopS ρ w w8 P g cap e b c b3 m0 m1 (.slice (some ⟨g, 0, none⟩) (nx + (m + 1)) cap) ((nx : Int) + 1) dl (fun i => f2 ((nx + 1) * 2 + i)) m) := (HS7.out.same HS7.out.u.drew rfl).chg hch (hs8.trans HQ.out.2.1) (fun i hi => (hk8 i (by omega)).trans (HQ.out.2.2 i hi)); clear hch hs8 hk8)
        all_goals go_wp2
        all_goals go_meet
        all_goals exact HD
      case rest =>
      clear HS7
      have HS8 := hcut
      clear hcut
      have c4 : wc.cell? ⟨P, 4, none⟩ = some (.slice (some ⟨g, 0, none⟩) (nx + (m + 1)) cap) := HS8.out.p.2.cell (by omega)
      have c5 : wc.cell? ⟨P, 5, none⟩ = some (.int .i64 ((nx : Int) + 1)) := HS8.out.p.2.cell (by omega)
      have f4 : wc.frozen? ⟨P, 4, none⟩ = false := HS8.out.p.2.frozen 4
      have f5 : wc.frozen? ⟨P, 5, none⟩ = false := HS8.out.p.2.frozen 5
      have hmc : (m : Int) ≤ (cap : Int) := by omega
      have hm0 : (0 : Int) ≤ (m : Int) := by omega
      go_wp2
      go_meet
      have hs9 := (HS8.out.set4 (.slice (some ⟨g, 0, none⟩) m cap)).set5 0
      refine ⟨.slice (some ⟨g, 0, none⟩) m cap, 0, _, _, hs9, ?_, Nat.zero_le _, fun _ => rfl⟩
      have hq9 := hs9.qs (rest := rest) (nx' := 0) (by rw [← HM.out]; omega) (by omega) hcm (fun i hi => by
        rw [HF2.out i (by rw [HM.out]; exact hi)]
        rw [show 2 * (nx + 1 + i) = (nx + 1) * 2 + 2 * (0 + i) by omega]
        rw [show (nx + 1) * 2 + 2 * (0 + i) + 1 = (nx + 1) * 2 + (2 * (0 + i) + 1) by omega])
      rw [← HM.out, Nat.zero_add] at hq9
      exact hq9
    · have hle' : ¬ (m : Int) ≤ (nx : Int) + 1 := by omega
      go_wp2
      go_meet
      refine ⟨_, nx + 1, f2, _, HS6.out, ?_, Nat.le_refl _, fun h => absurd h hle⟩
      have := HS6.out.qs (rest := rest) (nx' := nx + 1) (by rw [← HM.out]; omega) hNc hcm (fun i hi => HF2.out i (by rw [HM.out]; exact hi))
      rw [← HM.out, show nx + 1 + m = nx + (m + 1) by omega] at this
      exact this
  case rest =>
  obtain ⟨iv', nx', f', n', hs', hq', hn', hz'⟩ := hcut.out
  have HS : Hid (PopS ρ w wc P g cap e b c b3 m0 m1 iv' ((nx' : Nat) : Int) dl f' n') := hs'
  have HQ' : Hid (QS ρ wc iv' nx' rest) := hq'
  clear hs' hq' hcut HS6 HF2
  have d0 : wc.cell? ⟨b3, 0, none⟩ = some (.pointer (some ⟨e, 0, none⟩)) := HS.out.r3.cell (by omega)
  have d1 : wc.cell? ⟨b3, 1, none⟩ = some (.slice (some ⟨b, 0, none⟩) 1 c) := HS.out.r3.cell (by omega)
  have x0 : wc.cell? ⟨w.heap.size, 0, none⟩ = some (.pointer none) := HS.out.r2.cell (by omega)
  have x1 : wc.cell? ⟨w.heap.size, 1, none⟩ = some (.slice none 0 0) := HS.out.r2.cell (by omega)
  have y0 : wc.frozen? ⟨w.heap.size, 0, none⟩ = false := HS.out.r2.frozen 0
  have y1 : wc.frozen? ⟨w.heap.size, 1, none⟩ = false := HS.out.r2.frozen 1
  go_wp2
  have hne := HS.out.ne
  have hU : Upd S16 ρ w ρ ((wc.setCell ⟨w.heap.size, 0, none⟩ (.pointer (some ⟨e, 0, none⟩))).setCell ⟨w.heap.size, 1, none⟩ (.slice (some ⟨b, 0, none⟩) 1 c)) := (HS.out.u.set _ (Or.inl (Nat.le_refl _))).set _ (Or.inl (Nat.le_refl _))
  have hPp : Pip ρ ((wc.setCell ⟨w.heap.size, 0, none⟩ (.pointer (some ⟨e, 0, none⟩))).setCell ⟨w.heap.size, 1, none⟩ (.slice (some ⟨b, 0, none⟩) 1 c)) P m0 m1 iv' ((nx' : Nat) : Int) dl := ⟨HS.out.p.1, (HS.out.p.2.setOther hne.2.1 _).setOther hne.2.1 _⟩
  have hQq : QS ρ ((wc.setCell ⟨w.heap.size, 0, none⟩ (.pointer (some ⟨e, 0, none⟩))).setCell ⟨w.heap.size, 1, none⟩ (.slice (some ⟨b, 0, none⟩) 1 c)) iv' nx' rest := by
    obtain ⟨xs, ho, hk, hx⟩ := HQ'.out
    refine ⟨xs, owns_of_block ho (fun k ek hl => ?_), hk, hx⟩
    have hk6 := hk k ek
    have hkn : k ≠ w.heap.size := fun e2 => by rw [e2, HF.out _ (Nat.le_refl _)] at hk6; exact absurd hk6 (by decide)
    rw [Below.heap_setCell _ _ _ _ (fun e2 => hkn e2), Below.heap_setCell _ _ _ _ (fun e2 => hkn e2)]
  have z0 : ((wc.setCell ⟨w.heap.size, 0, none⟩ (.pointer (some ⟨e, 0, none⟩))).setCell ⟨w.heap.size, 1, none⟩ (.slice (some ⟨b, 0, none⟩) 1 c)).cell? ⟨w.heap.size, 0, none⟩ = some (.pointer (some ⟨e, 0, none⟩)) := by
    rw [World.cell?_setCell_other _ _ _ _ (by simp)]
    exact World.cell?_setCell_same _ _ _ x0
  have z1 : ((wc.setCell ⟨w.heap.size, 0, none⟩ (.pointer (some ⟨e, 0, none⟩))).setCell ⟨w.heap.size, 1, none⟩ (.slice (some ⟨b, 0, none⟩) 1 c)).cell? ⟨w.heap.size, 1, none⟩ = some (.slice (some ⟨b, 0, none⟩) 1 c) := World.cell?_setCell_same _ _ _ ((World.cell?_setCell_other _ _ _ _ (by simp)).trans x1)
  generalize (wc.setCell ⟨w.heap.size, 0, none⟩ (.pointer (some ⟨e, 0, none⟩))).setCell ⟨w.heap.size, 1, none⟩ (.slice (some ⟨b, 0, none⟩) 1 c) = w9 at *
  refine bodyPost_ret (v := .agg #[.pointer (some ⟨e, 0, none⟩), .slice (some ⟨b, 0, none⟩) 1 c]) ?_ rfl ⟨rfl, iv', nx', hPp, hQq, hn', fun h => hz' (by rw [HM.out, h]; exact Nat.zero_le _), hU⟩
  simp [results, Yba.results21, go_sem, z0, z1]
end Go.Proofs.Ybulkceww.Pipe
