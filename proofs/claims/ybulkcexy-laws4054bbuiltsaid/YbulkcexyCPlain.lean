/-
  The plain law of LawS4054CBuilt: what l2tp's plain function gives of a frame that was built field by field.
-/
import Derived.Test.YbulkcexyPlain
namespace Go.Proofs.Ybulkcexy.Frame

/-- The two bytes of a uint16. -/
def w16 (x : Int) : List Int := [x / 256, x % 256]

/-! ### The flags -/
def orIf (b : Bool) (x k : Nat) : Nat := if b then x ||| k else x
def flg0 (ver res : Nat) : Nat := (res &&& 13808) ||| (ver % 16)
def flg (ver res : Nat) (ctl len seq off : Bool) : Nat := orIf off (orIf seq (orIf len (orIf ctl (flg0 ver res) 32768) 16384) 2048) 512

theorem orIf_lt (b : Bool) (x k : Nat) (hx : x < 65536) (hk : k < 65536) : orIf b x k < 65536 := by
  unfold orIf; split
  · exact Nat.or_lt_two_pow (n := 16) hx hk
  · exact hx
theorem flg0_lt (ver res : Nat) (hr : res < 65536) : flg0 ver res < 65536 :=
  Nat.or_lt_two_pow (n := 16) (Nat.lt_of_le_of_lt Nat.and_le_left hr) (by omega)
theorem flg_lt (ver res : Nat) (ctl len seq off : Bool) (hr : res < 65536) : flg ver res ctl len seq off < 65536 :=
  orIf_lt _ _ _ (orIf_lt _ _ _ (orIf_lt _ _ _ (orIf_lt _ _ _ (flg0_lt ver res hr) (by omega)) (by omega)) (by omega)) (by omega)

theorem bit_orIf (b : Bool) (x k i : Nat) : (orIf b x k).testBit i = (x.testBit i || (b && k.testBit i)) := by
  unfold orIf; cases b <;> simp [Nat.testBit_or]
theorem bit_flg0 (ver res i : Nat) (h : (13808 : Nat).testBit i = false) (h4 : 4 ≤ i) : (flg0 ver res).testBit i = false := by
  unfold flg0
  rw [Nat.testBit_or, Nat.testBit_and, h]
  have : (ver % 16).testBit i = false := Nat.testBit_lt_two_pow (Nat.lt_of_lt_of_le (Nat.mod_lt _ (by omega)) (show 16 ≤ 2 ^ i from Nat.pow_le_pow_right (n := 2) (by omega) h4))
  rw [this]; simp
theorem odd_iff (x i : Nat) (b : Bool) (h : x.testBit i = b) : (x / 2 ^ i % 2 = 1) ↔ b = true := by
  rw [← h, Nat.testBit_eq_decide_div_mod_eq]; simp

theorem flg_15 (ver res : Nat) (ctl len seq off : Bool) : (flg ver res ctl len seq off / 32768 % 2 = 1) ↔ ctl = true :=
  odd_iff _ 15 _ (by unfold flg; simp only [bit_orIf, bit_flg0 ver res 15 (by decide) (by decide)]; revert ctl len seq off; decide)
theorem flg_14 (ver res : Nat) (ctl len seq off : Bool) : (flg ver res ctl len seq off / 16384 % 2 = 1) ↔ len = true :=
  odd_iff _ 14 _ (by unfold flg; simp only [bit_orIf, bit_flg0 ver res 14 (by decide) (by decide)]; revert ctl len seq off; decide)
theorem flg_11 (ver res : Nat) (ctl len seq off : Bool) : (flg ver res ctl len seq off / 2048 % 2 = 1) ↔ seq = true :=
  odd_iff _ 11 _ (by unfold flg; simp only [bit_orIf, bit_flg0 ver res 11 (by decide) (by decide)]; revert ctl len seq off; decide)
theorem flg_9 (ver res : Nat) (ctl len seq off : Bool) : (flg ver res ctl len seq off / 512 % 2 = 1) ↔ off = true :=
  odd_iff _ 9 _ (by unfold flg; simp only [bit_orIf, bit_flg0 ver res 9 (by decide) (by decide)]; revert ctl len seq off; decide)
theorem orIf_mod (b : Bool) (x k : Nat) (hk : k % 16 = 0) : orIf b x k % 16 = x % 16 := by
  unfold orIf; split
  · have := Nat.or_mod_two_pow (a := x) (b := k) (n := 4)
    simp only [show (2 : Nat) ^ 4 = 16 from rfl, hk, Nat.or_zero] at this
    exact this
  · rfl
theorem flg_mod (ver res : Nat) (ctl len seq off : Bool) : flg ver res ctl len seq off % 16 = ver % 16 := by
  unfold flg
  rw [orIf_mod _ _ _ (by decide), orIf_mod _ _ _ (by decide), orIf_mod _ _ _ (by decide), orIf_mod _ _ _ (by decide)]
  unfold flg0
  have := Nat.or_mod_two_pow (a := res &&& 13808) (b := ver % 16) (n := 4)
  simp only [show (2 : Nat) ^ 4 = 16 from rfl] at this
  rw [this]
  have h2 : (res &&& 13808) % 16 = 0 := by
    have h3 := Nat.and_two_pow_sub_one_eq_mod (res &&& 13808) 4
    simp only [show (2 : Nat) ^ 4 = 16 from rfl, show 16 - 1 = 15 from rfl] at h3
    rw [← h3, Nat.and_assoc]; simp
  rw [h2]; simp

/-! ### Lists read by places -/
def zz (L : List Int) : Nat → Int := fun i => L.getD i 0
theorem zz_app (A X : List Int) (i j : Nat) (h : j = A.length + i) : zz (A ++ X) j = zz X i := by
  subst h; simp [zz, List.getElem?_append_right]
theorem zz_app0 (A X : List Int) (j : Nat) (h : j = A.length) : zz (A ++ X) j = zz X 0 := zz_app A X 0 j (by omega)
theorem zz_isB (L : List Int) (h : ∀ x ∈ L, 0 ≤ x ∧ x ≤ 255) : IsB (zz L) := by
  intro i
  unfold zz
  by_cases hi : i < L.length
  · have : L.getD i 0 = L[i] := by simp [List.getD, hi]
    rw [this]; exact h _ (List.getElem_mem hi)
  · have : L.getD i 0 = 0 := by simp [List.getD, List.getElem?_eq_none (Nat.le_of_not_lt hi)]
    rw [this]; omega
theorem w16_b {x : Int} (h : 0 ≤ x ∧ x ≤ 65535) : ∀ y ∈ w16 x, 0 ≤ y ∧ y ≤ 255 := by
  intro y hy; simp [w16] at hy; omega
theorem zz0 (x : Int) (X : List Int) : zz (x :: X) 0 = x := by simp [zz]
theorem zz1 (x y : Int) (X : List Int) : zz (x :: y :: X) 1 = y := by simp [zz]
theorem be_w16 (A X : List Int) (x : Int) (j : Nat) (h : j = A.length) : be (zz (A ++ (w16 x ++ X))) j = x := by
  unfold be
  rw [zz_app0 A _ j h, zz_app A _ 1 (j + 1) (by omega)]
  show zz (x / 256 :: x % 256 :: X) 0 * 256 + zz (x / 256 :: x % 256 :: X) 1 = x
  rw [zz0, zz1]; omega

/-! ### The PPP part -/
def prv (v6 : Bool) : Int := if v6 then 87 else 33
def wantv (v6 : Bool) : Int := if v6 then 34525 else 2048
def cAdr (adr : Bool) : List Int := if adr then [255, 3] else []
def cPro (cmp v6 : Bool) : List Int := if cmp then [prv v6] else [0, prv v6]

theorem pppFin_prv (v6 : Bool) (k : Nat) : pppFin (prv v6) k = some (wantv v6, k) := by cases v6 <;> rfl

theorem pppAt_built (A Q : List Int) (cmp v6 : Bool) : pppAt (A ++ (cPro cmp v6 ++ Q)).length (zz (A ++ (cPro cmp v6 ++ Q))) A.length = some (wantv v6, A.length + (cPro cmp v6).length) := by
  unfold pppAt
  cases cmp
  · have e0 : zz (A ++ (cPro false v6 ++ Q)) A.length = 0 := by rw [zz_app0 A _ _ rfl]; rfl
    have e1 : zz (A ++ (cPro false v6 ++ Q)) (A.length + 1) = prv v6 := by rw [zz_app A _ 1 _ rfl]; rfl
    rw [if_neg (by rw [e0]; omega), if_pos (by simp [cPro])]
    unfold be
    rw [e0, e1, show (0 : Int) * 256 + prv v6 = prv v6 by omega, pppFin_prv]
    rfl
  · have e0 : zz (A ++ (cPro true v6 ++ Q)) A.length = prv v6 := by rw [zz_app0 A _ _ rfl]; rfl
    rw [if_pos (by rw [e0]; refine ⟨by simp [cPro], by cases v6 <;> rfl⟩), e0, pppFin_prv]
    rfl

theorem pppM_built (A Q : List Int) (adr cmp v6 : Bool) :
    pppM (A ++ (cAdr adr ++ (cPro cmp v6 ++ Q))).length (zz (A ++ (cAdr adr ++ (cPro cmp v6 ++ Q)))) A.length = some (wantv v6, A.length + (cAdr adr).length + (cPro cmp v6).length) := by
  cases adr
  · have hh : pppHd (A ++ (cAdr false ++ (cPro cmp v6 ++ Q))).length (zz (A ++ (cAdr false ++ (cPro cmp v6 ++ Q)))) A.length = false := by
      refine decide_eq_false ?_
      have e0 : zz (A ++ (cAdr false ++ (cPro cmp v6 ++ Q))) A.length = if cmp then prv v6 else 0 := by
        rw [zz_app0 A _ _ rfl]; cases cmp <;> rfl
      rw [e0]
      cases cmp <;> cases v6 <;> simp [prv]
    unfold pppM
    rw [hh]
    exact pppAt_built A Q cmp v6
  · have hh : pppHd (A ++ (cAdr true ++ (cPro cmp v6 ++ Q))).length (zz (A ++ (cAdr true ++ (cPro cmp v6 ++ Q)))) A.length = true := by
      refine decide_eq_true ⟨by simp [cAdr], ?_, ?_⟩
      · rw [zz_app0 A _ _ rfl]; rfl
      · rw [zz_app A _ 1 _ rfl]; rfl
    unfold pppM
    rw [hh]
    have := pppAt_built (A ++ cAdr true) Q cmp v6
    simp only [List.append_assoc, List.length_append] at this ⊢
    exact this

/-! ### The whole frame -/
def cLen (len : Bool) (ln : Int) : List Int := if len then w16 ln else []
def cSeq (seq : Bool) (ns nr : Int) : List Int := if seq then w16 ns ++ w16 nr else []
def cOff (off : Bool) (P : List Int) : List Int := if off then w16 P.length ++ P else []
def cHd (F : Int) (len seq : Bool) (ln tid sid ns nr : Int) : List Int := (((w16 F ++ cLen len ln) ++ w16 tid) ++ w16 sid) ++ cSeq seq ns nr

theorem cHd_len (F : Int) (len seq : Bool) (ln tid sid ns nr : Int) : (cHd F len seq ln tid sid ns nr).length = 6 + (if len then 2 else 0) + (if seq then 4 else 0) := by
  cases len <;> cases seq <;> rfl

theorem l2_built (F : Int) (ctl len seq off adr cmp v6 : Bool) (ln tid sid ns nr : Int) (P Q : List Int) (hP : P.length ≤ 1024)
    (h15 : (F / 32768 % 2 = 1) ↔ ctl = true) (h14 : (F / 16384 % 2 = 1) ↔ len = true) (h11 : (F / 2048 % 2 = 1) ↔ seq = true) (h9 : (F / 512 % 2 = 1) ↔ off = true)
    (hc : ctl = false) (hv : F % 16 = 2) (L : List Int) (hL : L = (((cHd F len seq ln tid sid ns nr ++ cOff off P) ++ cAdr adr) ++ cPro cmp v6) ++ Q) :
    l2M L.length (zz L) (be (zz L) 0) = some (wantv v6, ((((cHd F len seq ln tid sid ns nr ++ cOff off P) ++ cAdr adr) ++ cPro cmp v6)).length) := by
  have hbe : be (zz L) 0 = F := by
    rw [hL]; unfold cHd
    simp only [List.append_assoc]
    exact be_w16 [] _ F 0 rfl
  rw [hbe]
  have hn1 : l2Len F = (cHd F len seq ln tid sid ns nr).length := by
    rw [cHd_len]; unfold l2Len
    cases len <;> cases seq <;> simp_all
  unfold l2M
  rw [if_neg (by rw [h15, hc]; simp [hv]), hn1]
  obtain ⟨H, hH⟩ : ∃ H, H = cHd F len seq ln tid sid ns nr := ⟨_, rfl⟩
  rw [← hH] at hL ⊢
  have hppp := pppM_built (H ++ cOff off P) Q adr cmp v6
  have hL' : L = (H ++ cOff off P) ++ (cAdr adr ++ (cPro cmp v6 ++ Q)) := by rw [hL]; simp only [List.append_assoc]
  rw [← hL'] at hppp
  have hlen : (((H ++ cOff off P) ++ cAdr adr) ++ cPro cmp v6).length = (H ++ cOff off P).length + (cAdr adr).length + (cPro cmp v6).length := by simp only [List.length_append]
  rw [hlen, ← hppp]
  have hLl : (H ++ cOff off P).length ≤ L.length := by rw [hL']; simp only [List.length_append]; omega
  cases off
  · rw [if_neg (by rw [h9]; simp)]
    have e : (H ++ cOff false P).length = H.length := by simp [cOff]
    rw [e] at hLl ⊢
    unfold l2At
    rw [if_neg (by omega)]
  · have e : (H ++ cOff true P).length = H.length + 2 + P.length := by simp [cOff, w16]; omega
    rw [e] at hLl ⊢
    have hb2 : be (zz L) H.length = P.length := by
      rw [hL']
      have : (H ++ cOff true P) ++ (cAdr adr ++ (cPro cmp v6 ++ Q)) = H ++ (w16 P.length ++ (P ++ (cAdr adr ++ (cPro cmp v6 ++ Q)))) := by simp [cOff, List.append_assoc]
      rw [this]
      exact be_w16 H _ _ _ rfl
    rw [if_pos (by rw [h9]), if_neg (by omega), hb2]
    unfold l2At
    rw [Int.toNat_natCast, if_neg (by omega)]

theorem l2_refused (N : Nat) (z : Nat → Int) (F : Int) (ctl : Bool) (h15 : (F / 32768 % 2 = 1) ↔ ctl = true) (h : ctl = true ∨ ¬ F % 16 = 2) : l2M N z F = none := by
  unfold l2M
  rw [if_pos]
  rcases h with h | h
  · exact Or.inl (h15.2 h)
  · exact Or.inr h

end Go.Proofs.Ybulkcexy.Frame
