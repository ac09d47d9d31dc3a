/-
  The walk of LawS4054BModel.
-/
import Derived.Test.YbulkcexyEther
import Derived.Test.YbulkcexyMod
import Derived.Test.YbulkcexyAppend
import Derived.Laws.CopyOwn
namespace Go.Proofs.Ybulkcexy.Frame
open Go.RowKit
set_option linter.unusedVariables false
set_option maxRecDepth 100000

theorem bm_big (a : Option Addr) (n c : Nat) (sel : Int) (w : World) (h : 4096 < n) (hm : n ≤ maxLen) :
    Calls Yba.prog 3 #[.slice a n c, .int .u8 sel] w fun e w' => e = .returned (.bool true) ∧ Below w.heap.size w w' := by
  unfold maxLen at hm
  go_enter Yba.func3, Yba.ntmps3
  go_wp2
  go_ret
  exact ⟨rfl, Below.refl _ _⟩

def zeros (n : Nat) : List Value := List.replicate n (.int .u8 0)
theorem made_zeros (w : World) (n : Nat) : (w.alloc (.cells (madeCells #[.int .u8 0] n) 5)).heap[w.heap.size]? = some (.cells (zeros n).toArray 5 (0, 0)) := by
  obtain ⟨c, hb, hn, hc⟩ := World.rowIs_made w (.int .u8 0) n 5
  rw [hb]
  have : c = (zeros n).toArray := by
    apply Array.ext_getElem?
    intro i
    by_cases h : i < n
    · rw [hc i h]; simp [zeros, h]
    · rw [Array.getElem?_eq_none (by omega)]; simp [zeros]; omega
  rw [this]

def vals (M : List Int) : List Value := M.map (Value.int .u8)
theorem vals_len (M : List Int) : (vals M).length = M.length := by simp [vals]
theorem vals_at {M : List Int} {j : Nat} {v : Value} (h : (vals M)[j]? = some v) : j < M.length ∧ v = .int .u8 (M.getD j 0) := by
  have hj : j < M.length := by
    have := (List.getElem?_eq_some_iff.1 h).1
    rwa [vals_len] at this
  refine ⟨hj, ?_⟩
  simp [vals, hj] at h
  rw [← h]
  simp [List.getD, hj]
theorem vals_one (M : List Int) : ∀ u ∈ vals M, u.oneCell' = true := ints_oneCell _ _

theorem row_copied {w' : World} {g n : Nat} {M : List Int} (hM : M.length = n) (h : w'.heap[g]? = some (.cells (splice (zeros n) 0 (vals M)).toArray 5 (0, 0))) : w'.rowIs g 5 n (fun i => .int .u8 (zz M i)) := by
  have e : splice (zeros n) 0 (vals M) = M.map (Value.int .u8) := by
    simp [splice, zeros, vals, hM]
  rw [e] at h
  exact ⟨_, h, by simp [hM], fun i hi => by simp [zz, List.getD, show i < M.length by omega]⟩

/-- The six followed types. -/
def tyf (i : Nat) : Int := [33024, 34984, 37120, 34916, 34887, 34888].getD i 0
theorem tyf_b (i : Nat) : 0 ≤ tyf i ∧ tyf i ≤ 65535 := by
  match i with
  | 0 | 1 | 2 | 3 | 4 | 5 => decide
  | i + 6 => simp [tyf]

/-- The frame's row. -/
structure BRow (w wx : World) (n : Nat) (z : Nat → Int) : Prop where
  below : Below w.heap.size w wx
  row : wx.rowIs w.heap.size 5 n (fun i => .int .u8 (z i))
  isB : IsB z

theorem BRow.lies {w wx : World} {n : Nat} {z : Nat → Int} (h : BRow w wx n z) : Lies wx w.heap.size n z := fun i hi => h.row.cell hi

def setz (z : Nat → Int) (i : Nat) (x : Int) : Nat → Int := fun j => if j = i then x else z j
theorem BRow.set {w wx : World} {n : Nat} {z : Nat → Int} (h : BRow w wx n z) (i : Nat) (x : Int) (hx : 0 ≤ x ∧ x ≤ 255) : BRow w (wx.setCell ⟨w.heap.size, i, none⟩ (.int .u8 x)) n (setz z i x) :=
  ⟨h.below.setCell (Nat.le_refl _) _, (h.row.set i _).congr (fun j hj => by unfold setz; split <;> rfl), fun j => by unfold setz; split; exact hx; exact h.isB j⟩

set_option maxHeartbeats 2000000 in
theorem bm_main (a : Option Addr) (n c : Nat) (sel : Int) (M : List Int) (w : World) (hn : n ≤ 4096) (hsel : 0 ≤ sel ∧ sel ≤ 255) (hM : Src w a n c M) (bM : ∀ x ∈ M, 0 ≤ x ∧ x ≤ 255) :
    Calls Yba.prog 3 #[.slice a n c, .int .u8 sel] w fun e w' => e = .returned (.bool true) ∧ Below w.heap.size w w' := by
  have HM : Hid (Src w a n c M) := hM
  have HBM : Hid (∀ x ∈ M, 0 ≤ x ∧ x ≤ 255) := bM
  have hmk := run_make_row' (P := Yba.prog) 22 5 (.int .u8 0) 1 Yba.underlying22 info5 rfl .i64 .i64 n (by omega) (by omega)
  clear hM bM
  go_enter Yba.func3, Yba.ntmps3
  go_wp2_with (refine wpList_copy_splice rfl (.tmp 20) (.tmp 21) 22 22 rfl 5 Yba.underlying22 (by kernel_rfl) _ _ _ _ _ _ rfl rfl w.heap.size 0 (zeros n) 5 (made_zeros w n) (vals M) ?_ ?_ ?_ ?_ w.heap.size w ?_ (Nat.le_refl _) ?_)
  · simp [vals_len, HM.out.1]
  · intro hpos
    cases a with
    | none => have h1 := (HM.out.2.1 rfl).1; have h2 := HM.out.1; rw [vals_len] at hpos; omega
    | some ad =>
      refine ⟨ad, rfl, fun j v hj => ?_⟩
      obtain ⟨hjm, rfl⟩ := vals_at hj
      have h1 := HM.out.2.2 ad rfl j (by have := HM.out.1; omega)
      exact (World.cell?_alloc_lt _ _ _ (World.block_lt_of_cell? _ _ h1)).trans h1
  · simp [zeros, vals_len, HM.out.1]
  · exact vals_one _
  · exact (Below.refl _ _).alloc (Nat.le_refl _) _
  intro w1 hsp hb1
  have HR1 : Hid (BRow w w1 n (zz M)) := ⟨hb1, row_copied HM.out.1 hsp.out, zz_isB M HBM.out⟩
  have hsz : w.heap.size < w1.heap.size := HR1.out.row.lt
  clear hsp hb1 hmk HM HBM
  go_upto_region 6 with fail
  obtain ⟨T, hT⟩ : ∃ T, T = w1.heap.size := ⟨_, rfl⟩
  rw [← hT] at hsz ⊢
  go_cut [7] (fun v wx => ∃ sn : Nat, v = .int .i64 sn ∧ sn < 8 ∧ Hid (BRow w wx n (zz M)) ∧ Hid (∀ i, i < 6 → wx.cell? ⟨T, i, none⟩ = some (.int .u16 (tyf i))))
  case first => as_aux_lemma =>
    go_wp2
    go_meet
    refine ⟨(sel % 8).toNat, ?_, by omega, ⟨HR1.out.below.alloc HR1.out.below.size _, HR1.out.row.alloc _, HR1.out.isB⟩, ?_⟩
    · congr 1; omega
    · intro i hi
      rw [hT]
      match i, hi with
      | 0, _ => simp [tyf]
      | 1, _ => simp [tyf]
      | 2, _ => simp [tyf]
      | 3, _ => simp [tyf]
      | 4, _ => simp [tyf]
      | 5, _ => simp [tyf]
  case rest =>
  clear HR1 hT
  obtain ⟨sn, rfl, hsn, HR, HT⟩ := hcut
  go_upto_region 7 with fail
  go_cut [33] (fun t wx => t = .bool (decide (sn < 6 ∧ 14 ≤ n)) ∧ wx = wc)
  case first => as_aux_lemma =>
    by_cases h1 : sn < 6
    · by_cases h2 : 14 ≤ n
      · go_wp2
        go_meet
        exact ⟨by congr 1; rw [Bool.eq_iff_iff]; simp <;> omega, rfl⟩
      · go_wp2
        go_meet
        exact ⟨by congr 1; rw [Bool.eq_iff_iff]; simp <;> omega, rfl⟩
    · go_wp2
      go_meet
      exact ⟨by congr 1; rw [Bool.eq_iff_iff]; simp <;> omega, rfl⟩
  case rest =>
  obtain ⟨rfl, rfl⟩ := hcut
  go_upto_if 33 with fail
  go_cut [] (fun wx => ∃ z, Hid (BRow w wx n z))
  case first => as_aux_lemma =>
    cases hd : decide (sn < 6 ∧ 14 ≤ n)
    case true =>
      obtain ⟨h1, h2⟩ := of_decide_eq_true hd
      have ct := HT.out sn h1
      have tb := tyf_b sn
      obtain ⟨ty, hty⟩ : ∃ ty, ty = tyf sn := ⟨_, rfl⟩
      rw [← hty] at ct tb
      have c12 : wc.cell? ⟨w.heap.size, 12, none⟩ = some (.int .u8 (zz M 12)) := HR.out.row.cell (by omega)
      have f12 : wc.frozen? ⟨w.heap.size, 12, none⟩ = false := HR.out.row.frozen 12
      have c13 : wc.cell? ⟨w.heap.size, 13, none⟩ = some (.int .u8 (zz M 13)) := HR.out.row.cell (by omega)
      have f13 : wc.frozen? ⟨w.heap.size, 13, none⟩ = false := HR.out.row.frozen 13
      have hl12 : (12 : Int) < (n : Int) := by omega
      have hl13 : (13 : Int) < (n : Int) := by omega
      have hne : ¬ T = w.heap.size := by omega
      clear hty hd
      go_wp2
      go_meet
      exact ⟨_, (HR.out.set 12 (ty / 256) (by omega)).set 13 (ty % 256) (by omega)⟩
    case false =>
      clear hd
      go_wp2
      go_meet
      exact ⟨_, HR⟩
  case rest =>
  obtain ⟨z, HZ⟩ := hcut
  clear HR HT
  have hnil := fun (w : World) (a : Option Addr) (n c n' c' : Nat) => Lib.run_eql_slice_nil (P := Yba.prog) w 22 5 a n c n' c' Yba.underlying22
  have HV : Hid (SlAt w.heap.size n n 0 (.slice (some ⟨w.heap.size, 0, none⟩) n n)) := ⟨_, n, n, rfl, by omega, by omega, by omega, fun _ => rfl⟩
  have HMOD : Hid (∀ w' : World, Lies w' w.heap.size n z → Calls Yba.prog 8 #[.slice (some ⟨w.heap.size, 0, none⟩) n n] w' fun e w'' => ModAns (etherM n z) e ∧ Below w'.heap.size w' w'') := by
    intro w' hl
    by_cases h14 : n < 14
    · exact mod_short _ n n w' h14 z
    · exact mod_long w.heap.size n n z w' (by omega) (by omega) HZ.out.isB hl
  cases hR : etherM n z with
  | none =>
    have HR : Hid (etherM n z = none) := hR
    clear hR
    go_upto_region 11 with (go_at_call 7; refine (ether_any w.heap.size n n _ z _ HV.out (by omega) HZ.out.isB HZ.out.lies).mono ?_; rintro e w2 ⟨he, hb2⟩; rw [HR.out] at he; obtain rfl := he)
    have HL2 : Hid (Lies w2 w.heap.size n z) := HZ.out.lies.below hb2
    have HB2 : Hid (Below w.heap.size w w2) := HZ.out.below.trans (hb2.mono HZ.out.below.size)
    clear hb2
    go_wp2_with (go_at_call 8; refine (HMOD.out _ HL2.out).mono ?_; rintro e w3 ⟨he, hb3⟩; rw [HR.out] at he; obtain rfl := he)
    go_ret
    exact ⟨rfl, HB2.out.trans (hb3.mono HB2.out.size)⟩
  | some tk =>
    obtain ⟨t, k⟩ := tk
    have HR : Hid (etherM n z = some (t, k)) := hR
    clear hR
    go_upto_region 11 with (go_at_call 7; refine (ether_any w.heap.size n n _ z _ HV.out (by omega) HZ.out.isB HZ.out.lies).mono ?_; rintro e w2 ⟨he, hb2⟩; rw [HR.out] at he; obtain ⟨a', m, c', rfl, hk, hmc, ha'⟩ := he)
    have HL2 : Hid (Lies w2 w.heap.size n z) := HZ.out.lies.below hb2
    have HB2 : Hid (Below w.heap.size w w2) := HZ.out.below.trans (hb2.mono HZ.out.below.size)
    have HK : Hid (k + m = n) := hk
    have HA : Hid (0 < m → a' = ⟨w.heap.size, k, none⟩) := ha'
    have hkn : k ≤ n := by omega
    have hkn' : (k : Int) ≤ (n : Int) := by omega
    have hlen : ((m : Int) == (n : Int) - (k : Int)) = true := by simp; omega
    clear hb2 hk ha'
    go_upto_region 12 with (go_at_call 8; refine (HMOD.out _ HL2.out).mono ?_; rintro e w3 ⟨he, hb3⟩; rw [HR.out] at he; obtain rfl := he)
    have HL3 : Hid (Lies w3 w.heap.size n z) := HL2.out.below hb3
    have HB3 : Hid (Below w.heap.size w w3) := HB2.out.trans (hb3.mono HB2.out.size)
    clear hb3 HL2 HB2
    by_cases hkn2 : n = k
    · obtain rfl := hkn2
      obtain rfl : 0 = m := by have := HK.out; omega
      clear hlen hkn hkn'
      go_wp2_with (go_at_call 9; refine (equal_at w.heap.size n n n 0 _ _ _ _ _ z _ HK.out (by omega) HA.out ?_ HL3.out).mono ?_; (intro h; omega); rintro e w4 ⟨rfl, rfl⟩)
      go_ret
      exact ⟨rfl, HB3.out⟩
    · go_wp2_with (go_at_call 9; refine (equal_at w.heap.size n n k m _ _ _ _ _ z _ HK.out (by omega) HA.out ?_ HL3.out).mono ?_; (intro h; rfl); rintro e w4 ⟨rfl, rfl⟩)
      go_ret
      exact ⟨rfl, HB3.out⟩

end Go.Proofs.Ybulkcexy.Frame
