/-
  Plain functions: what the Ethernet readers compute.
-/
import Derived.Test.YbulkcexyPlain
namespace Go.Proofs.Ybulkcexy.Frame

/-- Under the label stack that begins at place k. -/
def labM : Nat → Nat → (Nat → Int) → Nat → Option Nat
  | 0, _, _, _ => none
  | f + 1, N, z, k => if k + 4 ≤ N then (if z (k + 2) % 2 = 1 then some (k + 4) else labM f N z (k + 4)) else none

def rawM (N : Nat) (z : Nat → Int) (k : Nat) : Option (Int × Nat) :=
  if N ≤ k then none else if z k / 16 = 4 then some (2048, k) else if z k / 16 = 6 then some (34525, k) else none

def isTag (t : Int) : Bool := decide (t = 33024 ∨ t = 34984 ∨ t = 37120)
def isLab (t : Int) : Bool := decide (t = 34887 ∨ t = 34888)

/-- etherPayload: the payload of type t begins at place i. -/
def ethM : Nat → Nat → (Nat → Int) → Int → Nat → Option (Int × Nat)
  | 0, _, _, _, _ => none
  | f + 1, N, z, t, i =>
    if isTag t then (if i + 4 ≤ N then ethM f N z (be z (i + 2)) (i + 4) else none)
    else if t = 34916 then (if i + 6 ≤ N then pppM N z (i + 6) else none)
    else if isLab t then
      (match labM (N + 1) N z i with
       | none => none
       | some k => if ¬ N ≤ k ∧ z k / 16 = 0 then (if k + 18 ≤ N then ethM f N z (be z (k + 16)) (k + 18) else none) else rawM N z k)
    else some (t, i)

def etherM (N : Nat) (z : Nat → Int) : Option (Int × Nat) := if N < 14 then none else ethM (N + 1) N z (be z 12) 14

theorem lab_yes {f N : Nat} {z : Nat → Int} {k : Nat} (h1 : k + 4 ≤ N) (h2 : z (k + 2) % 2 = 1) : labM (f + 1) N z k = some (k + 4) := by
  unfold labM; rw [if_pos h1, if_pos h2]
theorem lab_no {f N : Nat} {z : Nat → Int} {k : Nat} (h1 : k + 4 ≤ N) (h2 : ¬ z (k + 2) % 2 = 1) : labM (f + 1) N z k = labM f N z (k + 4) := by
  conv => lhs; unfold labM
  rw [if_pos h1, if_neg h2]
theorem lab_end {f N : Nat} {z : Nat → Int} {k : Nat} (h1 : ¬ k + 4 ≤ N) : labM (f + 1) N z k = none := by
  unfold labM; rw [if_neg h1]

theorem eth_tag {f N : Nat} {z : Nat → Int} {t : Int} {i : Nat} (h : isTag t = true) : ethM (f + 1) N z t i = if i + 4 ≤ N then ethM f N z (be z (i + 2)) (i + 4) else none := by
  conv => lhs; unfold ethM
  rw [if_pos h]
theorem eth_ppp {f N : Nat} {z : Nat → Int} {t : Int} {i : Nat} (h : t = 34916) : ethM (f + 1) N z t i = if i + 6 ≤ N then pppM N z (i + 6) else none := by
  conv => lhs; unfold ethM
  rw [if_neg (by subst h; decide), if_pos h]
theorem eth_lab {f N : Nat} {z : Nat → Int} {t : Int} {i : Nat} (h : isLab t = true) : ethM (f + 1) N z t i =
    match labM (N + 1) N z i with
    | none => none
    | some k => if ¬ N ≤ k ∧ z k / 16 = 0 then (if k + 18 ≤ N then ethM f N z (be z (k + 16)) (k + 18) else none) else rawM N z k := by
  conv => lhs; unfold ethM
  have h' : t = 34887 ∨ t = 34888 := of_decide_eq_true h
  rw [if_neg (by rcases h' with h' | h' <;> subst h' <;> decide), if_neg (by omega), if_pos h]
theorem eth_else {f N : Nat} {z : Nat → Int} {t : Int} {i : Nat} (h1 : isTag t = false) (h2 : ¬ t = 34916) (h3 : isLab t = false) : ethM (f + 1) N z t i = some (t, i) := by
  conv => lhs; unfold ethM
  rw [if_neg (by rw [h1]; decide), if_neg h2, if_neg (by rw [h3]; decide)]

theorem labM_ge : ∀ f N z k r, labM f N z k = some r → k + 4 ≤ r ∧ r ≤ N := by
  intro f
  induction f with
  | zero => intro N z k r h; simp [labM] at h
  | succ f ih =>
    intro N z k r h
    unfold labM at h
    by_cases h1 : k + 4 ≤ N
    · rw [if_pos h1] at h
      by_cases h2 : z (k + 2) % 2 = 1
      · rw [if_pos h2] at h
        injection h with h
        omega
      · rw [if_neg h2] at h
        have := ih _ _ _ _ h
        omega
    · rw [if_neg h1] at h
      cases h

end Go.Proofs.Ybulkcexy.Frame
