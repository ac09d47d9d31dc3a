/-
  LawS4052AScript: the comparison of two lists of MSUs that hold the same bytes.
-/
import Derived.Test.YbulkcewwMem
namespace Go.Proofs.Ybulkceww.Pipe
open Go.RowKit
set_option linter.unusedVariables false
set_option maxRecDepth 100000

theorem vl_shape' {ρ : Nat → Nat} {w : World} {r : Nat} {v : Value} {L : List Int} (h : VL ρ w r v L) : ∃ a cap, v = .slice a L.length cap := by
  obtain ⟨xs, ho, _, _⟩ := h
  rcases ho.2 with ⟨h1, h2⟩ | ⟨g, cap, cur, hv, _⟩
  · exact ⟨none, 0, by rw [h1, h2]⟩
  · exact ⟨_, cap, hv⟩

theorem vl_at {ρ : Nat → Nat} {w : World} {r n cap : Nat} {av : Option Addr} {L : List Int} (h : VL ρ w r (.slice av n cap) L) (hn : n = L.length) :
    0 < n → ∃ g, av = some ⟨g, 0, none⟩ ∧ ∀ t, t < n → ∃ b c, w.cell? ⟨g, t, none⟩ = some (.slice (some ⟨b, 0, none⟩) 1 c) ∧ w.cell? ⟨b, 0, none⟩ = some (.int .u8 (L.getD t 0)) := by
  intro h0
  obtain ⟨xs, ho, _, hx⟩ := h
  rcases ho.2 with ⟨h1, h2⟩ | ⟨g, cap', cur, hv, _, hg, _, _, _, htk⟩
  · simp at h1; omega
  · simp at hv
    refine ⟨g, hv.1, fun t ht => ?_⟩
    obtain ⟨b, c, e1, e2⟩ := hx t (by omega)
    refine ⟨b, c, ?_, e2.2⟩
    rw [← htk, List.getElem?_take_of_lt (by omega)] at e1
    simp [World.cell?, hg]
    simpa using e1

set_option maxHeartbeats 1000000 in
theorem eq_any (ρ : Nat → Nat) (w : World) (r1 r2 : Nat) (v1 v2 : Value) (L : List Int) (h1 : VL ρ w r1 v1 L) (h2 : VL ρ w r2 v2 L) (hlen : L.length ≤ 50000) :
    Calls Yba.prog 10 #[v1, v2] w fun e w' => e = .returned (.bool true) ∧ ∃ j, w' = w.drewN j := by
  obtain ⟨a1, c1, e1⟩ := vl_shape' h1
  obtain ⟨a2, c2, e2⟩ := vl_shape' h2
  obtain ⟨n, hn⟩ : ∃ n, n = L.length := ⟨_, rfl⟩
  rw [← hn] at e1 e2 hlen
  subst e1 e2
  have A1 : Hid (0 < n → ∃ g, a1 = some ⟨g, 0, none⟩ ∧ ∀ t, t < n → ∃ b c, w.cell? ⟨g, t, none⟩ = some (.slice (some ⟨b, 0, none⟩) 1 c) ∧ w.cell? ⟨b, 0, none⟩ = some (.int .u8 (L.getD t 0))) := vl_at h1 hn
  have A2 : Hid (0 < n → ∃ g, a2 = some ⟨g, 0, none⟩ ∧ ∀ t, t < n → ∃ b c, w.cell? ⟨g, t, none⟩ = some (.slice (some ⟨b, 0, none⟩) 1 c) ∧ w.cell? ⟨b, 0, none⟩ = some (.int .u8 (L.getD t 0))) := vl_at h2 hn
  clear h1 h2 hn
  go_enter Yba.func10, Yba.ntmps10
  go_wp2
  go_loopg [5] n (fun gk i wr => ∃ t : Nat, t ≤ n ∧ gk = n - t ∧ i = .int .i64 t ∧ ∃ j, wr = w.drewN j)
  case atStart => exact ⟨0, Nat.zero_le _, rfl, rfl, 0, rfl⟩
  case round =>
    obtain ⟨t, ht, rfl, rfl, j, rfl⟩ := hrel
    by_cases hlt : t < n
    · obtain ⟨g1, rfl, hc1⟩ := A1.out (by omega)
      obtain ⟨g2, rfl, hc2⟩ := A2.out (by omega)
      obtain ⟨b1, k1, x1, y1⟩ := hc1 t hlt
      obtain ⟨b2, k2, x2, y2⟩ := hc2 t hlt
      clear hc1 hc2
      have htn : (t : Int) < (n : Int) := by omega
      have ht0 : (0 : Int) ≤ (t : Int) := by omega
      go_wp2
      go_quiet (fail)
      go_wp2
      go_loopg [6] 1 (fun gk i wr => ∃ s : Nat, s ≤ 1 ∧ gk = 1 - s ∧ i = .int .i64 s ∧ ∃ j, wr = w.drewN j)
      case atStart => exact ⟨0, by omega, rfl, rfl, j + nq, by rw [World.drewN_drewN]⟩
      case round =>
        obtain ⟨s, hs, rfl, rfl, j2, rfl⟩ := hrel
        by_cases hs1 : s < 1
        · have hs0 : s = 0 := by omega
          subst hs0
          go_wp2
          go_quiet (fail)
          go_wp2
          go_roundg 0
          case measure => omega
          case rel => first | exact ⟨1, by omega, rfl, by go_num, _, rfl⟩ | exact ⟨1, by omega, rfl, by go_num, j2 + nq, by rw [World.drewN_drewN]⟩
        · have hs0 : s = 1 := by omega
          subst hs0
          go_wp2
          go_roundg (n - (t + 1))
          case measure => omega
          case rel => exact ⟨t + 1, by omega, rfl, by go_num, _, rfl⟩
    · go_wp2
      go_ret
      exact ⟨rfl, _, rfl⟩
end Go.Proofs.Ybulkceww.Pipe
