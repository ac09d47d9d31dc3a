/-
  LawS4059BModel: the plain numbers that the law lays into the sets.
-/
import Derived.Test.YbulkcfaqIni
namespace Go.Proofs.Ybulkcfaq.Sets
open Go.RowKit
set_option linter.unusedVariables false
set_option maxRecDepth 100000

def kk (sn : Nat) : Nat := if sn = 0 then 1 else sn
def zero0 : Nat → Nat → Int := fun _ _ => 0

theorem ini_made {w w' : World} {bl : Nat → Nat} {n k fn : Nat} (c : Int) (h : Six w.drew w' (fun _ => true) bl (nsf n k fn)) :
    Ini w.heap.size w (w'.alloc (.cells #[.slice (some ⟨bl 0, 0, none⟩) n n, .slice (some ⟨bl 1, 0, none⟩) n n, .slice (some ⟨bl 2, 0, none⟩) n n, .int .i64 c, .int .i64 0, .slice none 0 0, .slice (some ⟨bl 3, 0, none⟩) k k, .slice (some ⟨bl 4, 0, none⟩) k k, .slice (some ⟨bl 5, 0, none⟩) fn fn, .slice none 0 0] 32)) w'.heap.size bl n k fn zero0 c where
  m := by
    refine World.rowIs_alloc w' _ 32 _ ?_
    intro i hi
    match i, hi with
    | 0, _ | 1, _ | 2, _ | 3, _ | 4, _ | 5, _ | 6, _ | 7, _ | 8, _ | 9, _ => rfl
  row := fun j hj => ((h.row j hj rfl).congr (fun _ _ => rfl)).alloc _
  ge := fun j hj => h.ge j hj rfl
  gM := h.bel.size
  ne := fun i j hi hj e => h.ne i j hi hj rfl rfl e
  nM := fun j hj => by have := (h.row j hj rfl).lt; omega
  bel := ((Below.refl _ _).drew.trans h.bel).alloc h.bel.size _

def SZ (sn : Nat) (zs : Nat → Int) : Nat → Int := fun i => if i < sn then zs i else 0
def RZ (rn : Nat) (zr : Nat → Int) : Nat → Int := fun i => if i < rn then zr i else 1
def part (t : Nat) (z : Nat → Int) : Nat → Int := fun i => if i < t then z i else 0
def modk (k : Nat) (z : Nat → Int) : Nat → Int := fun i => z i % (k : Int)
def ZI (k sn rn : Nat) (zh zx zd zs zr zf : Nat → Int) (t u : Nat) : Nat → Nat → Int :=
  ZZ (part u (modk k zh)) (part u (modk k zx)) (part u zd) (SZ sn zs) (part t (RZ rn zr)) zf

theorem zi_start {B : Nat} {w0 w : World} {M : Nat} {bl : Nat → Nat} {n k fn sn rn : Nat} {c : Int} {zh zx zd zs zr zf : Nat → Int} (h : Ini B w0 w M bl n k fn (cpZ (cpZ zero0 3 sn zs) 5 fn zf) c) :
    Ini B w0 w M bl n k fn (ZI k sn rn zh zx zd zs zr zf 0 0) c := by
  refine h.congr (fun j hj i hi => ?_)
  match j, hj with
  | 0, _ | 1, _ | 2, _ | 3, _ | 4, _ => simp [cpZ, ZI, ZZ, part, zero0, SZ]
  | 5, _ =>
    have : i < fn := hi
    simp [cpZ, ZI, ZZ, this]

theorem zi_ref {B : Nat} {w0 w : World} {M : Nat} {bl : Nat → Nat} {n k fn sn rn : Nat} {c : Int} {zh zx zd zs zr zf : Nat → Int} {t u : Nat} (h : Ini B w0 w M bl n k fn (ZI k sn rn zh zx zd zs zr zf t u) c) :
    Ini B w0 (w.setCell ⟨bl 4, t, none⟩ (.int .i32 (RZ rn zr t))) M bl n k fn (ZI k sn rn zh zx zd zs zr zf (t + 1) u) c := by
  refine (h.set 4 (by omega) t (RZ rn zr t)).congr (fun j hj i hi => ?_)
  match j, hj with
  | 0, _ | 1, _ | 2, _ | 3, _ | 5, _ => simp [updZ, ZI, ZZ]
  | 4, _ =>
    simp only [updZ, ZI, ZZ, part]
    by_cases e : i = t
    · subst e; simp
    · by_cases e2 : i < t
      · simp [e, e2, show i < t + 1 by omega]
      · simp [e, e2, show ¬ i < t + 1 by omega]

theorem zi_node {B : Nat} {w0 w : World} {M : Nat} {bl : Nat → Nat} {n k fn sn rn : Nat} {c : Int} {zh zx zd zs zr zf : Nat → Int} {t u : Nat} (h : Ini B w0 w M bl n k fn (updZ (updZ (updZ (ZI k sn rn zh zx zd zs zr zf t u) 0 u (modk k zh u)) 1 u (modk k zx u)) 2 u (zd u)) c) :
    Ini B w0 w M bl n k fn (ZI k sn rn zh zx zd zs zr zf t (u + 1)) c := by
  refine h.congr (fun j hj i hi => ?_)
  match j, hj with
  | 3, _ | 4, _ | 5, _ => simp [updZ, ZI, ZZ]
  | 0, _ | 1, _ | 2, _ =>
    simp only [updZ, ZI, ZZ, part]
    by_cases e : i = u
    · subst e; simp
    · by_cases e2 : i < u
      · simp [e, e2, show i < u + 1 by omega]
      · simp [e, e2, show ¬ i < u + 1 by omega]

theorem modk_wrap {z : Nat → Int} {t k : Nat} {v : Int} (hv : v = z t) (h0 : 0 ≤ z t) (h1 : z t < 256) (hk : 1 ≤ k) : wrap32 (v % (k : Int)) = modk k z t := by
  subst hv
  unfold modk
  have h2 : 0 ≤ z t % (k : Int) := Int.emod_nonneg _ (by omega)
  have h3 : z t % (k : Int) ≤ z t := by
    obtain ⟨m, hm⟩ : ∃ m : Nat, z t = m := ⟨(z t).toNat, by omega⟩
    rw [hm, ← Int.natCast_emod]
    exact Int.ofNat_le.2 (Nat.mod_le _ _)
  unfold wrap32
  omega

theorem modk_range {z : Nat → Int} {t k : Nat} (hk : 1 ≤ k) : 0 ≤ modk k z t ∧ modk k z t < k :=
  ⟨Int.emod_nonneg _ (by omega), Int.emod_lt_of_pos _ (by omega)⟩
end Go.Proofs.Ybulkcfaq.Sets
