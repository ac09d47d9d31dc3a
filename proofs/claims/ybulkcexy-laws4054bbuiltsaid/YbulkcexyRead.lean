/-
  Contracts of the functions that read a frame: bigEndian.Uint16, ppp, l2tp.
-/
import Derived.Test.YbulkcexyRows
import Derived.Test.YbulkcexyPlain
import Derived.WalkKit
import Derived.WalkLawsBesides
import Derived.WalkSpells
import Derived.Below
import Derived.BigQuiet
import Derived.Deep.QuietTactic
import Derived.Deep.RegionWith
import Derived.Deep.LoopGhost
import Derived.Deep.OwnRows
import Derived.Deep.DeepCutAuto
namespace Go.Proofs.Ybulkcexy.Frame
open Go.RowKit
set_option linter.unusedVariables false

theorem u16_any (g o n c : Nat) (z0 z1 : Int) (w : World) (hn : 2 ≤ n) (h0 : w.cell? ⟨g, o, none⟩ = some (.int .u8 z0)) (h1 : w.cell? ⟨g, o + 1, none⟩ = some (.int .u8 z1))
    (b0 : 0 ≤ z0 ∧ z0 ≤ 255) (b1 : 0 ≤ z1 ∧ z1 ≤ 255) :
    Calls Yba.prog 17 #[.agg #[], .slice (some ⟨g, o, none⟩) n c] w fun e w' => e = .returned (.int .u16 (z0 * 256 + z1)) ∧ Below w.heap.size w w' := by
  have hl0 : (0 : Int) < (n : Int) := by omega
  have hl1 : (1 : Int) < (n : Int) := by omega
  have h0' : ∀ ob, (w.alloc ob).cell? ⟨g, o, none⟩ = some (.int .u8 z0) := fun ob => (World.cell?_alloc_lt _ _ _ (World.block_lt_of_cell? _ _ h0)).trans h0
  have h1' : ∀ ob, (w.alloc ob).cell? ⟨g, o + 1, none⟩ = some (.int .u8 z1) := fun ob => (World.cell?_alloc_lt _ _ _ (World.block_lt_of_cell? _ _ h1)).trans h1
  clear h0 h1
  go_enter Yba.func17, Yba.ntmps17
  go_wp2
  go_quiet (fail)
  go_wp2
  go_ret
  refine ⟨?_, below_drewN ((Below.refl _ _).alloc (Nat.le_refl _) _) _⟩
  show Ending.returned (.int .u16 (bits .or .u16 z1 (z0 * 256))) = _
  rw [or_hi z0 z1 b0 b1]

theorem u16_be (g o n c : Nat) (z : Nat → Int) (f : Int) (w : World) (hf : f = be z o) (hz : IsB z) (hn : 2 ≤ n) (h0 : w.cell? ⟨g, o, none⟩ = some (.int .u8 (z o))) (h1 : w.cell? ⟨g, o + 1, none⟩ = some (.int .u8 (z (o + 1)))) :
    Calls Yba.prog 17 #[.agg #[], .slice (some ⟨g, o, none⟩) n c] w fun e w' => e = .returned (.int .u16 f) ∧ Below w.heap.size w w' := by
  rw [hf]
  exact u16_any g o n c (z o) (z (o + 1)) w hn h0 h1 (hz _) (hz _)

/-- WHAT A READER ANSWERS: refused; or the type and the bytes of the block g from place k to place N. -/
def Ans (g N : Nat) (R : Option (Int × Nat)) (e : Ending) : Prop :=
  match R with
  | none => e = .returned (.tuple #[.int .u16 0, .slice none 0 0, .bool false])
  | some (t, k) => ∃ a m c, e = .returned (.tuple #[.int .u16 t, .slice (some a) m c, .bool true]) ∧ k + m = N ∧ m ≤ c ∧ (0 < m → a = ⟨g, k, none⟩)

/-- The bytes of block g lie in w: from place o, n of them. -/
def Lies (w : World) (g N : Nat) (z : Nat → Int) : Prop := ∀ i, i < N → w.cell? ⟨g, i, none⟩ = some (.int .u8 (z i))

theorem Lies.below {w w' : World} {g N : Nat} {z : Nat → Int} (h : Lies w g N z) (hb : Below w.heap.size w w') : Lies w' g N z :=
  fun i hi => (hb.cell (World.block_lt_of_cell? _ _ (h i hi))).trans (h i hi)

theorem ppp_nil (a : Addr) (c : Nat) (w : World) (g : Nat) :
    Calls Yba.prog 18 #[.slice (some a) 0 c] w fun e w' => Ans g 0 none e ∧ Below w.heap.size w w' := by
  go_enter Yba.func18, Yba.ntmps18
  go_wp2
  go_ret3
  exact ⟨rfl, Below.refl _ _⟩

theorem ans_no (g N : Nat) (p : Int) (k : Nat) (h1 : ¬ p = 33) (h2 : ¬ p = 87) : Ans g N (pppFin p k) (.returned (.tuple #[.int .u16 0, .slice none 0 0, .bool false])) := by
  unfold pppFin; rw [if_neg h1, if_neg h2]; rfl
theorem ans_4 {g N : Nat} {p : Int} {k m c : Nat} {a : Addr} (h1 : p = 33) (hk : k + m = N) (hm : m ≤ c) (ha : 0 < m → a = ⟨g, k, none⟩) :
    Ans g N (pppFin p k) (.returned (.tuple #[.int .u16 2048, .slice (some a) m c, .bool true])) := by
  unfold pppFin; rw [if_pos h1]; exact ⟨a, m, c, rfl, hk, hm, ha⟩
theorem ans_6 {g N : Nat} {p : Int} {k m c : Nat} {a : Addr} (h1 : p = 87) (hk : k + m = N) (hm : m ≤ c) (ha : 0 < m → a = ⟨g, k, none⟩) :
    Ans g N (pppFin p k) (.returned (.tuple #[.int .u16 34525, .slice (some a) m c, .bool true])) := by
  unfold pppFin; rw [if_neg (by omega), if_pos h1]; exact ⟨a, m, c, rfl, hk, hm, ha⟩

set_option maxHeartbeats 1000000 in
theorem ppp_some (g o n c : Nat) (z : Nat → Int) (w : World) (hn : 1 ≤ n) (hc : n ≤ c) (hm : c ≤ 9223372036854775807) (hz : IsB z) (hl : Lies w g (o + n) z) :
    Calls Yba.prog 18 #[.slice (some ⟨g, o, none⟩) n c] w fun e w' => Ans g (o + n) (pppM (o + n) z o) e ∧ Below w.heap.size w w' := by
  have HL : Hid (Lies w g (o + n) z) := hl
  clear hl
  go_enter Yba.func18, Yba.ntmps18
  go_upto_region 1 with fail
  go_cut [20] (fun t wx => t = .bool (pppHd (o + n) z o) ∧ wx = w)
  case first =>
    have b0 := hz o
    have b1 := hz (o + 1)
    have c0 := HL.out o (by omega)
    by_cases h2 : 2 ≤ n
    · have c1 := HL.out (o + 1) (by omega)
      have hl0 : (0 : Int) < (n : Int) := by omega
      have hl1 : (1 : Int) < (n : Int) := by omega
      go_wp2
      all_goals (go_meet; refine ⟨?_, rfl⟩; congr 1; rw [Bool.eq_iff_iff]; simp [pppHd]; simp at *; omega)
    · go_wp2
      all_goals (go_meet; refine ⟨?_, rfl⟩; congr 1; rw [Bool.eq_iff_iff]; simp [pppHd]; omega)
  case rest =>
    obtain ⟨rfl, rfl⟩ := hcut
    go_upto_if 20 with fail
    go_cut [0] (fun v wx => wx = wc ∧ ∃ a n' c' j, v = .slice (some a) n' c' ∧ n' ≤ c' ∧ c' ≤ c ∧ j + n' = o + n ∧ (0 < n' → a = ⟨g, j, none⟩) ∧ pppM (o + n) z o = pppAt (o + n) z j)
    case first =>
      cases hb : pppHd (o + n) z o
      case true =>
        have h2 : 2 ≤ n := by simp [pppHd] at hb; omega
        have h2c : (2 : Int) ≤ (c : Int) := by omega
        have h2n : (2 : Int) ≤ (n : Int) := by omega
        by_cases h3 : c = 2
        · go_wp2
          go_meet
          exact ⟨rfl, _, _, _, o + 2, rfl, by omega, by omega, by omega, fun h => by omega, by simp [pppM, hb]⟩
        · go_wp2
          go_meet
          exact ⟨rfl, _, _, _, o + 2, rfl, by omega, by omega, by omega, fun h => rfl, by simp [pppM, hb]⟩
      case false =>
        go_wp2
        go_meet
        exact ⟨rfl, _, _, _, o, rfl, by omega, by omega, by omega, fun h => rfl, by simp [pppM, hb]⟩
    case rest =>
      obtain ⟨rfl, a, n', c', j, rfl, hn', hc', hj, ha, hM⟩ := hcut
      have HM : Hid (pppM (o + n) z o = pppAt (o + n) z j) := hM
      clear hM
      by_cases h0 : n' = 0
      · subst h0
        go_wp2
        go_ret3
        refine ⟨?_, Below.refl _ _⟩
        rw [HM.out]
        have : pppAt (o + n) z j = none := by rw [pppAt, if_neg (by omega), if_neg (by omega)]
        rw [this]
        rfl
      have h0' : 0 < n' := by omega
      obtain rfl := ha h0'
      have hl0 : (0 : Int) < (n' : Int) := by omega
      have b0 := hz j
      have b1 := hz (j + 1)
      have c0 := HL.out j (by omega)
      have h1c : (1 : Int) ≤ (c' : Int) := by omega
      have e1 := and1 (z j) b0
      by_cases hp : z j % 2 = 1
      · have HP : Hid (pppAt (o + n) z j = pppFin (z j) (j + 1)) := by unfold pppAt; rw [if_pos ⟨by omega, hp⟩]; rfl
        by_cases hc1 : c' = 1
        · go_wp2
          go_quiet (fail)
          go_wp2
          all_goals go_ret3
          all_goals (refine ⟨?_, below_drewN (Below.refl _ _) _⟩; rw [HM.out, HP.out])
          · exact ans_4 (by simpa using ‹(z j == 33) = true›) (by omega) (by omega) (fun h => by omega)
          · exact ans_6 (by simpa using ‹(z j == 87) = true›) (by omega) (by omega) (fun h => by omega)
          · exact ans_no _ _ _ _ (by simpa using ‹(z j == 33) = false›) (by simpa using ‹(z j == 87) = false›)
        · go_wp2
          go_quiet (fail)
          go_wp2
          all_goals go_ret3
          all_goals (refine ⟨?_, below_drewN (Below.refl _ _) _⟩; rw [HM.out, HP.out])
          · exact ans_4 (by simpa using ‹(z j == 33) = true›) (by omega) (by omega) (fun h => rfl)
          · exact ans_6 (by simpa using ‹(z j == 87) = true›) (by omega) (by omega) (fun h => rfl)
          · exact ans_no _ _ _ _ (by simpa using ‹(z j == 33) = false›) (by simpa using ‹(z j == 87) = false›)
      · by_cases h2 : n' < 2
        · have HP : Hid (pppAt (o + n) z j = none) := by unfold pppAt; rw [if_neg (by omega), if_neg (by omega)]; rfl
          go_wp2
          go_ret3
          refine ⟨?_, Below.refl _ _⟩
          rw [HM.out, HP.out]
          rfl
        have HP : Hid (pppAt (o + n) z j = pppFin (be z j) (j + 2)) := by unfold pppAt; rw [if_neg (by omega), if_pos (by omega)]; rfl
        have c1 := HL.out (j + 1) (by omega)
        have h2c : (2 : Int) ≤ (c' : Int) := by omega
        have h2n : (2 : Int) ≤ (n' : Int) := by omega
        by_cases hc2 : c' = 2
        · go_wp2
          go_region_with (go_at_call 17; refine (u16_any g j _ _ (z j) (z (j + 1)) _ (by omega) ?_ ?_ b0 b1).mono ?_; exact c0; exact c1; rintro e w' ⟨rfl, hb⟩)
          all_goals go_wp2
          all_goals go_ret3
          all_goals (refine ⟨?_, (Below.refl _ _).drew.trans hb⟩; rw [HM.out, HP.out])
          · exact ans_4 (by simpa [be] using ‹(z j * 256 + z (j + 1) == 33) = true›) (by omega) (by omega) (fun h => by omega)
          · exact ans_6 (by simpa [be] using ‹(z j * 256 + z (j + 1) == 87) = true›) (by omega) (by omega) (fun h => by omega)
          · exact ans_no _ _ _ _ (by simpa [be] using ‹(z j * 256 + z (j + 1) == 33) = false›) (by simpa [be] using ‹(z j * 256 + z (j + 1) == 87) = false›)
        · go_wp2
          go_region_with (go_at_call 17; refine (u16_any g j _ _ (z j) (z (j + 1)) _ (by omega) ?_ ?_ b0 b1).mono ?_; exact c0; exact c1; rintro e w' ⟨rfl, hb⟩)
          all_goals go_wp2
          all_goals go_ret3
          all_goals (refine ⟨?_, (Below.refl _ _).drew.trans hb⟩; rw [HM.out, HP.out])
          · exact ans_4 (by simpa [be] using ‹(z j * 256 + z (j + 1) == 33) = true›) (by omega) (by omega) (fun h => rfl)
          · exact ans_6 (by simpa [be] using ‹(z j * 256 + z (j + 1) == 87) = true›) (by omega) (by omega) (fun h => rfl)
          · exact ans_no _ _ _ _ (by simpa [be] using ‹(z j * 256 + z (j + 1) == 33) = false›) (by simpa [be] using ‹(z j * 256 + z (j + 1) == 87) = false›)

theorem ppp_any (a : Addr) (g o n c N : Nat) (z : Nat → Int) (w : World) (hN : o + n = N) (ha : 0 < n → a = ⟨g, o, none⟩) (hc : n ≤ c) (hm : c ≤ 9223372036854775807) (hz : IsB z) (hl : Lies w g N z) :
    Calls Yba.prog 18 #[.slice (some a) n c] w fun e w' => Ans g N (pppM N z o) e ∧ Below w.heap.size w w' := by
  subst hN
  by_cases h0 : n = 0
  · subst h0
    have : pppM (o + 0) z o = none := by
      have h : pppHd (o + 0) z o = false := decide_eq_false (by omega)
      unfold pppM; rw [h]
      show pppAt (o + 0) z o = none
      unfold pppAt; rw [if_neg (by omega), if_neg (by omega)]
    rw [this]
    exact (ppp_nil a c w g).mono fun e w' h => h
  · obtain rfl := ha (by omega)
    exact ppp_some g o n c z w (by omega) hc hm hz hl

end Go.Proofs.Ybulkcexy.Frame
