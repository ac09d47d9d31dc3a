/-
  Contracts of ethernet and of bytes.Equal at two slices that hold the same bytes.
-/
import Derived.Test.YbulkcexyPay
namespace Go.Proofs.Ybulkcexy.Frame
open Go.RowKit
set_option linter.unusedVariables false
set_option maxRecDepth 100000

set_option maxHeartbeats 400000 in
theorem ether_any (g N C : Nat) (v : Value) (z : Nat → Int) (w : World) (hv : SlAt g N C 0 v) (hC : C ≤ 9223372036854775807) (hz : IsB z) (hl : Lies w g N z) :
    Calls Yba.prog 7 #[v] w fun e w' => Ans g N (etherM N z) e ∧ Below w.heap.size w w' := by
  have HL : Hid (Lies w g N z) := hl
  have HV : Hid (SlAt g N C 0 v) := hv
  clear hl hv
  by_cases h14 : N < 14
  · have HR : Hid (etherM N z = none) := by unfold etherM; rw [if_pos h14]; rfl
    go_enter Yba.func7, Yba.ntmps7
    go_wp2_with (go_at_call 15; refine (hd_any g N C 0 _ z _ HV.out hC hz HL.out).mono ?_; rintro e w1 ⟨he, hb⟩; rcases he with ⟨hsh, rfl⟩ | ⟨hlg, v3, _, hv3⟩; rotate_left; (exfalso; omega))
    go_ret3
    refine ⟨?_, hb⟩
    rw [HR.out]; rfl
  · obtain ⟨t, ht⟩ : ∃ t, t = be z 12 := ⟨_, rfl⟩
    have htb : 0 ≤ t ∧ t ≤ 65535 := by rw [ht]; exact be_bd hz 12
    have HR : Hid (etherM N z = ethM (N + 1) N z t 14) := by unfold etherM; rw [if_neg h14, ht]; rfl
    have HT : Hid (be z (0 + 12) = t) := ht.symm
    clear ht
    go_enter Yba.func7, Yba.ntmps7
    go_upto_region 2 with (go_at_call 15; refine (hd_any g N C 0 _ z _ HV.out hC hz HL.out).mono ?_; rintro e w1 ⟨he, hb⟩; rcases he with ⟨hsh, _⟩ | ⟨hlg, v3, rfl, hv3⟩; (exfalso; omega); rw [HT.out])
    have HL1 : Hid (Lies w1 g N z) := HL.out.below hb
    have HV3 : Hid (SlAt g N C 14 v3) := (by simpa using hv3 : SlAt g N C 14 v3)
    have HB : Hid (Below w.heap.size w w1) := hb
    clear hv3 hb hlg
    go_wp2_with (go_at_call 16; refine (pay_any g N C 14 t _ z _ htb (by omega) HV3.out hC hz HL1.out).mono ?_; rintro e w2 ⟨he, hb2⟩; rw [← HR.out] at he; obtain ⟨t2, v2, b2, rfl, HA⟩ := he.shape)
    go_ret3
    exact ⟨HA.out, HB.out.trans (hb2.mono HB.out.size)⟩

theorem run_convert_bytes_at (w : World) (a : Addr) (len cap : Nat) (xs : List Int) (hlen : xs.length = len) (hcell : ∀ i, i < len → w.cell? (a.add i) = some (.int .u8 (xs.getD i 0))) :
    (convert 22 9 (.slice (some a) len cap)).run Yba.prog w = .ok (.string (strOfNums xs)) w := by
  have hl : (loadCells a len).run Yba.prog w = .ok (xs.map (Value.int .u8)).toArray w := by
    have := run_loadCells_list (P := Yba.prog) w a (xs.map (Value.int .u8)) (fun j v hj => by
      have hjl : j < xs.length := by
        rcases Nat.lt_or_ge j xs.length with h | h
        · exact h
        · simp [List.getElem?_eq_none (show (xs.map (Value.int .u8)).length ≤ j by simpa using h)] at hj
      rw [hcell j (by omega)]
      simp [List.getElem?_eq_getElem hjl] at hj
      subst hj
      simp [List.getD, List.getElem?_eq_getElem hjl])
    simpa [hlen] using this
  rw [run_convert_bytes_string w 22 9 5 _ len cap Yba.underlying22 Yba.underlying5 Yba.underlying9, run_bytesToString w _ len cap xs hl, foldl_push_bytes]
  simp [strOfNums, ByteArray.empty, ByteArray.emptyWithCapacity]
  rfl

theorem equal_any (a1 a2 : Addr) (m c1 c2 : Nat) (xs : List Int) (w : World) (hm : xs.length = m) (h1 : ∀ i, i < m → w.cell? (a1.add i) = some (.int .u8 (xs.getD i 0))) (h2 : ∀ i, i < m → w.cell? (a2.add i) = some (.int .u8 (xs.getD i 0))) :
    Calls Yba.prog 9 #[.slice (some a1) m c1, .slice (some a2) m c2] w fun e w' => e = .returned (.bool true) ∧ w' = w := by
  have q1 := run_convert_bytes_at w a1 m c1 xs hm h1
  have q2 := run_convert_bytes_at w a2 m c2 xs hm h2
  obtain ⟨s, hs⟩ : ∃ s, s = strOfNums xs := ⟨_, rfl⟩
  rw [← hs] at q1 q2
  clear h1 h2 hs hm
  go_enter Yba.func9, Yba.ntmps9
  go_wp2
  go_ret
  exact ⟨rfl, rfl⟩

/-- Two slices over the same bytes of one block. -/
theorem equal_at (g N C k m1 m2 c1 c2 : Nat) (a1 a2 : Addr) (z : Nat → Int) (w : World) (hk1 : k + m1 = N) (hk2 : k + m2 = N) (ha1 : 0 < m1 → a1 = ⟨g, k, none⟩) (ha2 : 0 < m2 → a2 = ⟨g, k, none⟩) (hl : Lies w g N z) :
    Calls Yba.prog 9 #[.slice (some a1) m1 c1, .slice (some a2) m2 c2] w fun e w' => e = .returned (.bool true) ∧ w' = w := by
  obtain rfl : m1 = m2 := by omega
  refine equal_any a1 a2 m1 c1 c2 ((List.range m1).map fun i => z (k + i)) w (by simp) ?_ ?_
  · intro i hi
    obtain rfl := ha1 (by omega)
    rw [Addr.add_lit, hl (k + i) (by omega)]
    simp [List.getD, hi]
  · intro i hi
    obtain rfl := ha2 (by omega)
    rw [Addr.add_lit, hl (k + i) (by omega)]
    simp [List.getD, hi]

end Go.Proofs.Ybulkcexy.Frame
