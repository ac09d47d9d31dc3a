/-
  A message opened: what its sixteen fields hold.
-/
import Derived.Test.YbulkcexyAppend
import Derived.ProofKit
import Derived.OpenShut
namespace Go.Proofs.Ybulkcexy.Frame
open Go.ChangeShapes Go.WideShapes Go.ChangeAt Go.RowKit
set_option linter.unusedVariables false

theorem array16 {cs : Array Value} (h : cs.size = 16) : ∃ c0 c1 c2 c3 c4 c5 c6 c7 c8 c9 c10 c11 c12 c13 c14 c15, cs = #[c0, c1, c2, c3, c4, c5, c6, c7, c8, c9, c10, c11, c12, c13, c14, c15] := by
  obtain ⟨l⟩ := cs
  match l, h with
  | [c0, c1, c2, c3, c4, c5, c6, c7, c8, c9, c10, c11, c12, c13, c14, c15], _ => exact ⟨c0, c1, c2, c3, c4, c5, c6, c7, c8, c9, c10, c11, c12, c13, c14, c15, rfl⟩

theorem cells22 : Yba.prog.cellsOf 22 = 1 := by kernel_rfl
theorem cells23 : Yba.prog.cellsOf 23 = 1 := by kernel_rfl
theorem cells4 : Yba.prog.cellsOf 4 = 1 := by kernel_rfl
theorem cells5 : Yba.prog.cellsOf 5 = 1 := by kernel_rfl
theorem cells40 : Yba.prog.cellsOf 40 = 16 := by kernel_rfl

section
variable {H : Type} {enc : TypeId × Value → H} {W : World}

theorem slice_src {fuel : Nat} {c : Value} {y : DataW H × List MemPlace} (h : DataW.trod enc Yba.prog W 0 (fun _ => true) true fuel 22 [c] = some y) :
    ∃ a n cap M, c = .slice a n cap ∧ Src W a n cap M ∧ n ≤ maxLen ∧ ∀ x ∈ M, 0 ≤ x ∧ x ≤ 255 := by
  rcases open_ints Yba.underlying22 Yba.underlying5 cells5 h with ⟨hcs, _⟩ | ⟨a, len, cap, zs, hcs, _, hl, hm, hz, _, hcell, hwz⟩
  · simp at hcs
    subst hcs
    exact ⟨none, 0, 0, [], rfl, ⟨rfl, fun _ => ⟨rfl, rfl⟩, fun ad ha => by cases ha⟩, by unfold maxLen; omega, fun x hx => by cases hx⟩
  · simp at hcs
    subst hcs
    simp at hz
    refine ⟨some a, len, cap, zs.take len, rfl, ⟨by simp; omega, (fun ha => by cases ha), fun ad ha j hj => ?_⟩, by omega, fun x hx => bounds_u8 (hwz x (List.mem_of_mem_take hx))⟩
    obtain rfl := Option.some.inj ha
    rw [hcell j (by omega)]
    simp [List.getD, hj]

theorem int16 {fuel : Nat} {c : Value} {y : DataW H × List MemPlace} (h : DataW.trod enc Yba.prog W 0 (fun _ => true) true fuel 23 [c] = some y) : ∃ n : Int, c = .int .u16 n ∧ 0 ≤ n ∧ n ≤ 65535 := by
  obtain ⟨n, hn, _, hw⟩ := DataW.trod_int Yba.underlying23 h
  simp at hn
  exact ⟨n, hn, bounds_u16 hw⟩
theorem int8 {fuel : Nat} {c : Value} {y : DataW H × List MemPlace} (h : DataW.trod enc Yba.prog W 0 (fun _ => true) true fuel 5 [c] = some y) : ∃ n : Int, c = .int .u8 n ∧ 0 ≤ n ∧ n ≤ 255 := by
  obtain ⟨n, hn, _, hw⟩ := DataW.trod_int Yba.underlying5 h
  simp at hn
  exact ⟨n, hn, bounds_u8 hw⟩
theorem boolf {fuel : Nat} {c : Value} {y : DataW H × List MemPlace} (h : DataW.trod enc Yba.prog W 0 (fun _ => true) true fuel 4 [c] = some y) : ∃ b : Bool, c = .bool b := by
  obtain ⟨n, hn, _⟩ := DataW.trod_bool Yba.underlying4 h
  simp at hn
  exact ⟨n, hn⟩

theorem some_at {α : Type} (xs : List α) (i n : Nat) (h : xs.length = n) (hi : i < n) : ∃ y, xs[i]? = some y := by
  subst h
  exact ⟨xs[i], List.getElem?_eq_getElem hi⟩

set_option maxRecDepth 100000 in
set_option maxHeartbeats 1000000 in
theorem open_msg {r : Reach} {b : Nat} {v : Value} {d : DataW H} {p : List MemPlace} (hv : Value.okWide Yba.prog W r b 40 v) (h : DataW.Trod enc Yba.prog W 0 (fun _ => true) true 40 v d p) :
    ∃ (ver res : Nat) (ctl len seq off adr cmp v6 : Bool) (ln tid sid ns nr : Int) (pa qa : Option Addr) (pn pc qn qc : Nat) (P Q : List Int),
      v = .agg #[.int .u8 ver, .bool ctl, .bool len, .bool seq, .bool off, .int .u16 res, .int .u16 ln, .int .u16 tid, .int .u16 sid, .int .u16 ns, .int .u16 nr, .slice pa pn pc, .bool adr, .bool cmp, .bool v6, .slice qa qn qc] ∧
      ver < 256 ∧ res < 65536 ∧ (0 ≤ ln ∧ ln ≤ 65535) ∧ (0 ≤ tid ∧ tid ≤ 65535) ∧ (0 ≤ sid ∧ sid ≤ 65535) ∧ (0 ≤ ns ∧ ns ≤ 65535) ∧ (0 ≤ nr ∧ nr ≤ 65535) ∧
      Src W pa pn pc P ∧ Src W qa qn qc Q ∧ (∀ x ∈ P, 0 ≤ x ∧ x ≤ 255) ∧ (∀ x ∈ Q, 0 ≤ x ∧ x ≤ 255) := by
  obtain ⟨cs, rfl, hsz⟩ := okWide_struct Yba.underlying40 hv
  obtain ⟨c0, c1, c2, c3, c4, c5, c6, c7, c8, c9, c10, c11, c12, c13, c14, c15, rfl⟩ := array16 (hsz.trans cells40)
  obtain ⟨fuel, hf0⟩ := h
  obtain ⟨xs, n, _, _, _, hxl, hf⟩ := DataW.trod_struct Yba.underlying40 hf0
  have hxl' : xs.length = 16 := hxl
  have F : ∀ i, i < 16 → ∃ y, xs[i]? = some y := fun i hi => some_at xs i 16 hxl' hi
  obtain ⟨y0, e0⟩ := F 0 (by omega); obtain ⟨y1, e1⟩ := F 1 (by omega); obtain ⟨y2, e2⟩ := F 2 (by omega); obtain ⟨y3, e3⟩ := F 3 (by omega)
  obtain ⟨y4, e4⟩ := F 4 (by omega); obtain ⟨y5, e5⟩ := F 5 (by omega); obtain ⟨y6, e6⟩ := F 6 (by omega); obtain ⟨y7, e7⟩ := F 7 (by omega)
  obtain ⟨y8, e8⟩ := F 8 (by omega); obtain ⟨y9, e9⟩ := F 9 (by omega); obtain ⟨y10, e10⟩ := F 10 (by omega); obtain ⟨y11, e11⟩ := F 11 (by omega)
  obtain ⟨y12, e12⟩ := F 12 (by omega); obtain ⟨y13, e13⟩ := F 13 (by omega); obtain ⟨y14, e14⟩ := F 14 (by omega); obtain ⟨y15, e15⟩ := F 15 (by omega)
  have t0 := (hf 0 _ rfl).trans e0; have t1 := (hf 1 _ rfl).trans e1; have t2 := (hf 2 _ rfl).trans e2; have t3 := (hf 3 _ rfl).trans e3
  have t4 := (hf 4 _ rfl).trans e4; have t5 := (hf 5 _ rfl).trans e5; have t6 := (hf 6 _ rfl).trans e6; have t7 := (hf 7 _ rfl).trans e7
  have t8 := (hf 8 _ rfl).trans e8; have t9 := (hf 9 _ rfl).trans e9; have t10 := (hf 10 _ rfl).trans e10; have t11 := (hf 11 _ rfl).trans e11
  have t12 := (hf 12 _ rfl).trans e12; have t13 := (hf 13 _ rfl).trans e13; have t14 := (hf 14 _ rfl).trans e14; have t15 := (hf 15 _ rfl).trans e15
  simp [cells22, cells23, cells4, cells5, Value.cells] at t0 t1 t2 t3 t4 t5 t6 t7 t8 t9 t10 t11 t12 t13 t14 t15
  obtain ⟨ver, rfl, hver⟩ := int8 t0
  obtain ⟨ctl, rfl⟩ := boolf t1
  obtain ⟨len, rfl⟩ := boolf t2
  obtain ⟨seq, rfl⟩ := boolf t3
  obtain ⟨off, rfl⟩ := boolf t4
  obtain ⟨res, rfl, hres⟩ := int16 t5
  obtain ⟨ln, rfl, hln⟩ := int16 t6
  obtain ⟨tid, rfl, htid⟩ := int16 t7
  obtain ⟨sid, rfl, hsid⟩ := int16 t8
  obtain ⟨ns, rfl, hns⟩ := int16 t9
  obtain ⟨nr, rfl, hnr⟩ := int16 t10
  obtain ⟨pa, pn, pc, P, rfl, hP, _, bP⟩ := slice_src t11
  obtain ⟨adr, rfl⟩ := boolf t12
  obtain ⟨cmp, rfl⟩ := boolf t13
  obtain ⟨v6, rfl⟩ := boolf t14
  obtain ⟨qa, qn, qc, Q, rfl, hQ, _, bQ⟩ := slice_src t15
  obtain ⟨ver', rfl⟩ := Int.eq_ofNat_of_zero_le hver.1
  obtain ⟨res', rfl⟩ := Int.eq_ofNat_of_zero_le hres.1
  exact ⟨ver', res', ctl, len, seq, off, adr, cmp, v6, ln, tid, sid, ns, nr, pa, qa, pn, pc, qn, qc, P, Q, rfl, by omega, by omega, hln, htid, hsid, hns, hnr, hP, hQ, bP, bQ⟩

end
end Go.Proofs.Ybulkcexy.Frame
