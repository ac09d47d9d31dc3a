/-
  Contracts of the Ethernet readers: labelStack, rawIP, etherHeader, etherPayload, ethernet.
-/
import Derived.Test.YbulkcexyRead
import Derived.Test.YbulkcexyEPlain
namespace Go.Proofs.Ybulkcexy.Frame
open Go.RowKit
set_option linter.unusedVariables false
set_option maxRecDepth 100000

/-- A slice value over the bytes of block g from place k to place N. -/
def SlAt (g N C k : Nat) (v : Value) : Prop := ∃ a m c, v = .slice (some a) m c ∧ k + m = N ∧ m ≤ c ∧ c ≤ C ∧ (0 < m → a = ⟨g, k, none⟩)

def LabAns (g N C : Nat) (R : Option Nat) (e : Ending) : Prop :=
  match R with
  | none => e = .returned (.slice none 0 0)
  | some k => ∃ v, e = .returned v ∧ SlAt g N C k v

set_option maxHeartbeats 400000 in
theorem lab_any (g N C k0 : Nat) (v : Value) (z : Nat → Int) (w : World) (hv : SlAt g N C k0 v) (hC : C ≤ 9223372036854775807) (hz : IsB z) (hl : Lies w g N z) :
    Calls Yba.prog 19 #[v] w fun e w' => LabAns g N C (labM (N + 1) N z k0) e ∧ w' = w := by
  have HL : Hid (Lies w g N z) := hl
  obtain ⟨R, hR⟩ : ∃ R, R = labM (N + 1) N z k0 := ⟨_, rfl⟩
  rw [← hR]
  have HR : Hid (labM (N + 1) N z k0 = R) := hR.symm
  obtain ⟨a, m, c, rfl, hk, hmc, hcC, ha⟩ := hv
  clear hl hR
  go_enter Yba.func19, Yba.ntmps19
  go_wp2
  go_loopg [0] (N + 1) (fun gk v wr => wr = w ∧ ∃ a m c k, v = .slice (some a) m c ∧ Hid (k + m = N) ∧ m ≤ c ∧ c ≤ C ∧ Hid (0 < m → a = ⟨g, k, none⟩) ∧ N < k + 4 * gk ∧ Hid (labM gk N z k = R))
  case atStart => exact ⟨rfl, a, m, c, k0, rfl, hk, hmc, hcC, ha, by omega, HR⟩
  case round =>
    clear hk hmc hcC ha HR
    obtain ⟨rfl, a, m, c, k, rfl, HK, hmc, hcC, HA, hN, HR⟩ := hrel
    have hk := HK.out
    obtain ⟨f, rfl⟩ : ∃ f, gk = f + 1 := ⟨gk - 1, by omega⟩
    clear hk
    by_cases h4 : 4 ≤ m
    · obtain rfl := HA.out (by omega)
      have c2 := HL.out (k + 2) (by have := HK.out; omega)
      have b2 := hz (k + 2)
      have e1 := and1 _ b2
      have h4n : (4 : Int) ≤ (m : Int) := by omega
      have h2n : (2 : Int) < (m : Int) := by omega
      by_cases hp : z (k + 2) % 2 = 1
      · have HR2 : Hid (R = some (k + 4)) := HR.out.symm.trans (lab_yes (by have := HK.out; omega) hp)
        by_cases hc4 : c = 4
        · go_wp2
          go_ret
          refine ⟨?_, rfl⟩
          rw [HR2.out]
          exact ⟨_, rfl, _, _, _, rfl, by have := HK.out; omega, by omega, by omega, fun h => by omega⟩
        · go_wp2
          go_ret
          refine ⟨?_, rfl⟩
          rw [HR2.out]
          exact ⟨_, rfl, _, _, _, rfl, by have := HK.out; omega, by omega, by omega, fun h => rfl⟩
      · have HR2 : Hid (labM f N z (k + 4) = R) := (lab_no (by have := HK.out; omega) hp).symm.trans HR.out
        by_cases hc4 : c = 4
        · go_wp2
          go_roundg f
          case measure => omega
          case rel => exact ⟨rfl, _, _, _, k + 4, rfl, (by have := HK.out; show _ = _; omega), by omega, by omega, (fun h => by omega), by omega, HR2⟩
        · go_wp2
          go_roundg f
          case measure => omega
          case rel => exact ⟨rfl, _, _, _, k + 4, rfl, (by have := HK.out; show _ = _; omega), by omega, by omega, (fun h => rfl), by omega, HR2⟩
    · have HR2 : Hid (R = none) := HR.out.symm.trans (lab_end (by have := HK.out; omega))
      go_wp2
      go_ret
      refine ⟨?_, rfl⟩
      rw [HR2.out]
      rfl

theorem raw_nil (g N : Nat) (w : World) :
    Calls Yba.prog 20 #[.slice none 0 0] w fun e w' => Ans g N none e ∧ w' = w := by
  go_enter Yba.func20, Yba.ntmps20
  go_wp2
  go_ret3
  exact ⟨rfl, rfl⟩

set_option maxHeartbeats 400000 in
theorem raw_any (g N C k : Nat) (v : Value) (z : Nat → Int) (w : World) (hv : SlAt g N C k v) (hC : C ≤ 9223372036854775807) (hz : IsB z) (hl : Lies w g N z) :
    Calls Yba.prog 20 #[v] w fun e w' => Ans g N (rawM N z k) e ∧ w' = w := by
  obtain ⟨a, m, c, rfl, hk, hmc, hcC, ha⟩ := hv
  have HK : Hid (k + m = N) := hk
  by_cases h0 : m = 0
  · subst h0
    have HR : Hid (rawM N z k = none) := by unfold rawM; rw [if_pos (by omega)]; rfl
    clear ha hk
    go_enter Yba.func20, Yba.ntmps20
    go_wp2
    go_ret3
    refine ⟨?_, rfl⟩
    rw [HR.out]; rfl
  · obtain rfl := ha (by omega)
    have c0 := hl k (by omega)
    have b0 := hz k
    have hl0 : (0 : Int) < (m : Int) := by omega
    have HN : Hid (¬ N ≤ k) := (by show ¬ _; omega)
    have HMC : Hid (m ≤ c) := hmc
    clear hk hl ha
    go_enter Yba.func20, Yba.ntmps20
    go_wp2
    all_goals go_ret3
    all_goals (refine ⟨?_, rfl⟩; unfold rawM; rw [if_neg HN.out])
    · rw [if_pos (by simpa using ‹(z k / 16 == 4) = true›)]
      exact ⟨_, _, _, rfl, HK.out, HMC.out, fun _ => rfl⟩
    · rw [if_neg (by simpa using ‹(z k / 16 == 4) = false›), if_pos (by simpa using ‹(z k / 16 == 6) = true›)]
      exact ⟨_, _, _, rfl, HK.out, HMC.out, fun _ => rfl⟩
    · rw [if_neg (by simpa using ‹(z k / 16 == 4) = false›), if_neg (by simpa using ‹(z k / 16 == 6) = false›)]
      rfl

/-- etherHeader's answer: too short; or the type, and the bytes from place o + 14 on. -/
def HdAns (g N C o : Nat) (z : Nat → Int) (e : Ending) : Prop :=
  (N < o + 14 ∧ e = .returned (.tuple #[.int .u16 0, .slice none 0 0, .bool false])) ∨
  (o + 14 ≤ N ∧ ∃ v, e = .returned (.tuple #[.int .u16 (be z (o + 12)), v, .bool true]) ∧ SlAt g N C (o + 14) v)

set_option maxHeartbeats 400000 in
theorem hd_any (g N C o : Nat) (v : Value) (z : Nat → Int) (w : World) (hv : SlAt g N C o v) (hC : C ≤ 9223372036854775807) (hz : IsB z) (hl : Lies w g N z) :
    Calls Yba.prog 15 #[v] w fun e w' => HdAns g N C o z e ∧ Below w.heap.size w w' := by
  obtain ⟨a, m, c, rfl, hk, hmc, hcC, ha⟩ := hv
  have HK : Hid (o + m = N) := hk
  by_cases h14 : m < 14
  · clear ha hk hl
    go_enter Yba.func15, Yba.ntmps15
    go_wp2
    go_ret3
    exact ⟨Or.inl ⟨by have := HK.out; omega, rfl⟩, Below.refl _ _⟩
  · obtain rfl := ha (by omega)
    have c0 := hl (o + 12) (by omega)
    have c1 := hl (o + 12 + 1) (by omega)
    obtain ⟨f, hf⟩ : ∃ f, f = be z (o + 12) := ⟨_, rfl⟩
    have HU : Hid (∀ (w : World) (n' c' : Nat), 2 ≤ n' → w.cell? ⟨g, o + 12, none⟩ = some (.int .u8 (z (o + 12))) → w.cell? ⟨g, o + 12 + 1, none⟩ = some (.int .u8 (z (o + 12 + 1))) → Calls Yba.prog 17 #[.agg #[], .slice (some ⟨g, o + 12, none⟩) n' c'] w fun e w' => e = .returned (.int .u16 f) ∧ Below w.heap.size w w') :=
      fun w n' c' hn h0 h1 => u16_be g (o + 12) n' c' z f w hf hz hn h0 h1
    have HF : Hid (f = be z (o + 12)) := hf
    have hm12 : (12 : Int) ≤ (m : Int) := by omega
    have hm14 : (14 : Int) ≤ (m : Int) := by omega
    have hn12 : ¬ c = 12 := by omega
    clear hf hk hl ha
    by_cases hc14 : c = 14
    · go_enter Yba.func15, Yba.ntmps15
      go_wp2
      go_region_with (go_at_call 17; refine (HU.out _ _ _ (by omega) ?_ ?_).mono ?_; exact c0; exact c1; rintro e w' ⟨rfl, hb⟩)
      all_goals (try go_wp2)
      all_goals go_ret3
      all_goals
        refine ⟨Or.inr ⟨by have := HK.out; omega, ?_⟩, (Below.refl _ _).drew.trans hb⟩
        rw [← HF.out]
        exact ⟨_, rfl, _, _, _, rfl, by have := HK.out; omega, by omega, by omega, fun h => by omega⟩
    · go_enter Yba.func15, Yba.ntmps15
      go_wp2
      go_region_with (go_at_call 17; refine (HU.out _ _ _ (by omega) ?_ ?_).mono ?_; exact c0; exact c1; rintro e w' ⟨rfl, hb⟩)
      all_goals (try go_wp2)
      all_goals go_ret3
      all_goals
        refine ⟨Or.inr ⟨by have := HK.out; omega, ?_⟩, (Below.refl _ _).drew.trans hb⟩
        rw [← HF.out]
        exact ⟨_, rfl, _, _, _, rfl, by have := HK.out; omega, by omega, by omega, fun h => rfl⟩

end Go.Proofs.Ybulkcexy.Frame
