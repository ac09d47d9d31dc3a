/-
  Plain functions on bytes: what the frame readers compute. No Go in sight.
-/
import Derived.WalkKit
import Derived.Laws.BitsAllLaws
namespace Go.Proofs.Ybulkcexy.Frame

/-- The bytes z are bytes. -/
def IsB (z : Nat → Int) : Prop := ∀ i, 0 ≤ z i ∧ z i ≤ 255

def be (z : Nat → Int) (i : Nat) : Int := z i * 256 + z (i + 1)

theorem be_bd {z : Nat → Int} (h : IsB z) (i : Nat) : 0 ≤ be z i ∧ be z i ≤ 65535 := by
  have := h i; have := h (i + 1); unfold be; omega

def pppFin (p : Int) (k : Nat) : Option (Int × Nat) := if p = 33 then some (2048, k) else if p = 87 then some (34525, k) else none
def pppAt (N : Nat) (z : Nat → Int) (j : Nat) : Option (Int × Nat) :=
  if j + 1 ≤ N ∧ z j % 2 = 1 then pppFin (z j) (j + 1) else if j + 2 ≤ N then pppFin (be z j) (j + 2) else none
def pppHd (N : Nat) (z : Nat → Int) (j : Nat) : Bool := decide (j + 2 ≤ N ∧ z j = 255 ∧ z (j + 1) = 3)
def pppM (N : Nat) (z : Nat → Int) (j : Nat) : Option (Int × Nat) := pppAt N z (if pppHd N z j then j + 2 else j)

/-! ### Bits -/
theorem or_hi (x y : Int) (hx : 0 ≤ x ∧ x ≤ 255) (hy : 0 ≤ y ∧ y ≤ 255) : bits .or .u16 y (x * 256) = x * 256 + y := by
  rw [u16_or y (x * 256) (by omega) (by omega) (by omega) (by omega), Nat.or_comm, nat_join 8 _ _ (by omega) (by omega)]
  omega
theorem or_hi' (x y : Int) (hx : 0 ≤ x ∧ x ≤ 255) (hy : 0 ≤ y ∧ y ≤ 255) : bits .or .u16 (x * 256) y = x * 256 + y := by
  rw [u16_or (x * 256) y (by omega) (by omega) (by omega) (by omega), nat_join 8 _ _ (by omega) (by omega)]
  omega
theorem and1 (x : Int) (hx : 0 ≤ x ∧ x ≤ 255) : bits .and .u8 x 1 = x % 2 := by
  rw [u8_and x 1 (by omega) (by omega) (by omega) (by omega)]
  have : (1 : Int).toNat = 1 := rfl
  rw [this, nat_mask1]; omega
theorem and_bit16 (i : Nat) (x y : Int) (hy : y = ((2 ^ i : Nat) : Int)) (hi : i < 16) (hx : 0 ≤ x ∧ x ≤ 65535) : bits .and .u16 x y = ((x.toNat / 2 ^ i % 2 * 2 ^ i : Nat) : Int) := by
  have h2 : 2 ^ i < 65536 := by
    have : (2 : Nat) ^ i < 2 ^ 16 := Nat.pow_lt_pow_right (by omega) hi
    omega
  subst hy
  obtain ⟨a, rfl⟩ := Int.eq_ofNat_of_zero_le hx.1
  rw [u16_and_nat a (2 ^ i) (by omega) h2, nat_bit, Int.toNat_natCast]
theorem and32768 (x : Int) (hx : 0 ≤ x ∧ x ≤ 65535) : bits .and .u16 x 32768 = x / 32768 % 2 * 32768 := by
  rw [and_bit16 15 x 32768 (by decide) (by decide) hx]; omega
theorem and16384 (x : Int) (hx : 0 ≤ x ∧ x ≤ 65535) : bits .and .u16 x 16384 = x / 16384 % 2 * 16384 := by
  rw [and_bit16 14 x 16384 (by decide) (by decide) hx]; omega
theorem and2048 (x : Int) (hx : 0 ≤ x ∧ x ≤ 65535) : bits .and .u16 x 2048 = x / 2048 % 2 * 2048 := by
  rw [and_bit16 11 x 2048 (by decide) (by decide) hx]; omega
theorem and512 (x : Int) (hx : 0 ≤ x ∧ x ≤ 65535) : bits .and .u16 x 512 = x / 512 % 2 * 512 := by
  rw [and_bit16 9 x 512 (by decide) (by decide) hx]; omega
theorem and15 (x : Int) (hx : 0 ≤ x ∧ x ≤ 65535) : bits .and .u16 x 15 = x % 16 := by
  rw [u16_and x 15 (by omega) (by omega) (by omega) (by omega)]
  have : (15 : Int).toNat = 15 := rfl
  rw [this, nat_mask4]; omega

theorem wrap_sum (n1 : Nat) (f : Int) (h1 : n1 ≤ 70000) (hf : 0 ≤ f ∧ f ≤ 65535) : IntKind.i64.wrap ((n1 : Int) + IntKind.i64.wrap (2 + IntKind.i64.wrap f)) = ((n1 + 2 + f.toNat : Nat) : Int) := by
  simp only [IntKind.wrap_i64]; omega

/-! ### l2tp -/
/-- The header's length without the offset field. -/
def l2Len (f : Int) : Nat := 6 + (if f / 16384 % 2 = 1 then 2 else 0) + (if f / 2048 % 2 = 1 then 4 else 0)
def l2At (N : Nat) (z : Nat → Int) (n : Nat) : Option (Int × Nat) := if N < n then none else pppM N z n
def l2M (N : Nat) (z : Nat → Int) (f : Int) : Option (Int × Nat) :=
  if f / 32768 % 2 = 1 ∨ ¬ f % 16 = 2 then none
  else if f / 512 % 2 = 1 then (if N < l2Len f + 2 then none else l2At N z (l2Len f + 2 + (be z (l2Len f)).toNat))
  else l2At N z (l2Len f)

end Go.Proofs.Ybulkcexy.Frame
