/-
  The plain law of LawS4054BBuilt: what the Ethernet walk gives of a frame that was built.
-/
import Derived.Test.YbulkcexyEPlain
import Derived.Test.YbulkcexyCPlain
namespace Go.Proofs.Ybulkcexy.Frame

def z12 : List Int := List.replicate 12 0
def spc (t : Int) : Bool := decide (t = 33024 ∨ t = 34984 ∨ t = 37120 ∨ t = 34916 ∨ t = 34887 ∨ t = 34888)
def plainT (t : Int) : Int := if spc t then 2048 else t
def tagT (t : Int) : Int := [33024, 34984, 37120].getD (t % 3).toNat 0
def lastv (k : Nat) (typ : Int) : Int := if k = 0 then plainT typ else if k = 1 then 34916 else if typ / 8 % 2 = 1 then 34888 else 34887

theorem plainT_not (t : Int) : isTag (plainT t) = false ∧ ¬ plainT t = 34916 ∧ isLab (plainT t) = false := by
  unfold plainT
  cases h : spc t
  · have h' : ¬ (t = 33024 ∨ t = 34984 ∨ t = 37120 ∨ t = 34916 ∨ t = 34887 ∨ t = 34888) := of_decide_eq_false h
    refine ⟨decide_eq_false ?_, ?_, decide_eq_false ?_⟩
    all_goals (simp only [Bool.false_eq_true, if_false]; omega)
  · simp only [if_true]; exact ⟨by decide, by decide, by decide⟩
theorem plainT_b (t : Int) (h : 0 ≤ t ∧ t ≤ 65535) : 0 ≤ plainT t ∧ plainT t ≤ 65535 := by
  unfold plainT; split <;> omega
theorem lastv_b (k : Nat) (t : Int) (h : 0 ≤ t ∧ t ≤ 65535) : 0 ≤ lastv k t ∧ lastv k t ≤ 65535 := by
  have := plainT_b t h
  unfold lastv; split
  · exact this
  · split
    · omega
    · split <;> omega
theorem mod3 (t : Int) : (t % 3).toNat = 0 ∨ (t % 3).toNat = 1 ∨ (t % 3).toNat = 2 := by omega
theorem tagT_tag (t : Int) : isTag (tagT t) = true := by
  unfold tagT
  rcases mod3 t with h | h | h <;> rw [h] <;> decide
theorem tagT_b (t : Int) : 0 ≤ tagT t ∧ tagT t ≤ 65535 := by
  unfold tagT
  rcases mod3 t with h | h | h <;> rw [h] <;> decide

/-! ### The tags -/
def tyN (T : List Int) (last : Int) (j : Nat) : Int := if j < T.length then tagT (T.getD j 0) else last
theorem tyN_b (T : List Int) (last : Int) (j : Nat) (h : 0 ≤ last ∧ last ≤ 65535) : 0 ≤ tyN T last j ∧ tyN T last j ≤ 65535 := by
  unfold tyN; split
  · exact tagT_b _
  · exact h
def tagB (T : List Int) (last : Int) : Nat → List Int
  | 0 => []
  | j + 1 => tagB T last j ++ (w16 (T.getD j 0) ++ w16 (tyN T last (j + 1)))
def tagL (T : List Int) (last : Int) (j : Nat) : List Int := (z12 ++ w16 (tyN T last 0)) ++ tagB T last j

theorem tagB_len (T : List Int) (last : Int) (j : Nat) : (tagB T last j).length = 4 * j := by
  induction j with
  | zero => rfl
  | succ j ih => unfold tagB; simp only [List.length_append, ih]; simp [w16]; omega
theorem tagL_len (T : List Int) (last : Int) (j : Nat) : (tagL T last j).length = 14 + 4 * j := by
  unfold tagL; simp only [List.length_append, tagB_len]; simp [w16, z12]
theorem tagL_succ (T : List Int) (last : Int) (j : Nat) : tagL T last (j + 1) = (tagL T last j ++ w16 (T.getD j 0)) ++ w16 (tyN T last (j + 1)) := by
  unfold tagL; conv => lhs; unfold tagB
  simp only [List.append_assoc]
theorem tagB_pre (T : List Int) (last : Int) (i d : Nat) : ∃ Y, tagB T last (i + d) = tagB T last i ++ Y := by
  induction d with
  | zero => exact ⟨[], by simp⟩
  | succ d ih =>
    obtain ⟨Y, hY⟩ := ih
    refine ⟨Y ++ (w16 (T.getD (i + d) 0) ++ w16 (tyN T last (i + d + 1))), ?_⟩
    show tagB T last (i + d + 1) = _
    conv => lhs; unfold tagB
    rw [hY, List.append_assoc]
theorem tagL_pre (T : List Int) (last : Int) (i m : Nat) (h : i ≤ m) : ∃ Y, tagL T last m = tagL T last i ++ Y := by
  obtain ⟨d, rfl⟩ : ∃ d, m = i + d := ⟨m - i, by omega⟩
  obtain ⟨Y, hY⟩ := tagB_pre T last i d
  exact ⟨Y, by unfold tagL; rw [hY]; simp only [List.append_assoc]⟩

theorem be_tag (T : List Int) (last : Int) (m : Nat) (X : List Int) (j : Nat) (h : j ≤ m) : be (zz (tagL T last m ++ X)) (12 + 4 * j) = tyN T last j := by
  obtain ⟨Y, hY⟩ := tagL_pre T last j m h
  rw [hY]
  cases j with
  | zero =>
    have : tagL T last 0 ++ Y ++ X = z12 ++ (w16 (tyN T last 0) ++ (Y ++ X)) := by unfold tagL tagB; simp only [List.append_assoc, List.nil_append]
    rw [this]
    exact be_w16 z12 _ _ _ (by simp [z12])
  | succ j =>
    rw [tagL_succ]
    have : (tagL T last j ++ w16 (T.getD j 0)) ++ w16 (tyN T last (j + 1)) ++ Y ++ X = (tagL T last j ++ w16 (T.getD j 0)) ++ (w16 (tyN T last (j + 1)) ++ (Y ++ X)) := by simp only [List.append_assoc]
    rw [this]
    exact be_w16 _ _ _ _ (by rw [List.length_append, tagL_len]; simp [w16]; omega)

theorem eth_tags (f N : Nat) (z : Nat → Int) (T : List Int) (last : Int) (m : Nat) (hm : T.length = m) (hN : 14 + 4 * m ≤ N) (hbe : ∀ j, j ≤ m → be z (12 + 4 * j) = tyN T last j) :
    ∀ d j, j + d = m → ethM (f + d) N z (tyN T last j) (14 + 4 * j) = ethM f N z last (14 + 4 * m) := by
  intro d
  induction d with
  | zero =>
    intro j hj
    obtain rfl : j = m := by omega
    have : tyN T last j = last := by unfold tyN; rw [if_neg (by omega)]
    rw [this]; rfl
  | succ d ih =>
    intro j hj
    have ht : isTag (tyN T last j) = true := by unfold tyN; rw [if_pos (by omega)]; exact tagT_tag _
    have e : f + (d + 1) = (f + d) + 1 := by omega
    rw [e, eth_tag ht, if_pos (by omega), show 14 + 4 * j + 2 = 12 + 4 * (j + 1) by omega, hbe (j + 1) (by omega), show 14 + 4 * j + 4 = 14 + 4 * (j + 1) by omega]
    exact ih (j + 1) (by omega)

theorem ether_tags (T : List Int) (last : Int) (X F : List Int) (hF : F = tagL T last T.length ++ X) :
    ∃ f, etherM F.length (zz F) = ethM (f + 2) F.length (zz F) last (14 + 4 * T.length) := by
  have hl : F.length = 14 + 4 * T.length + X.length := by rw [hF, List.length_append, tagL_len]
  refine ⟨F.length + 1 - T.length - 2, ?_⟩
  unfold etherM
  rw [if_neg (by omega)]
  have h12 := be_tag T last T.length X 0 (by omega)
  rw [← hF] at h12
  have := eth_tags (F.length + 1 - T.length - 2 + 2) F.length (zz F) T last T.length rfl (by omega) (fun j hj => by rw [hF]; exact be_tag T last T.length X j hj) T.length 0 (by omega)
  rw [show be (zz F) 12 = tyN T last 0 from h12, ← this]
  congr 1; omega

/-! ### A plain type -/
theorem built0 (T : List Int) (typ : Int) (tail F : List Int) (hF : F = tagL T (plainT typ) T.length ++ tail) : etherM F.length (zz F) = some (plainT typ, 14 + 4 * T.length) := by
  obtain ⟨f, hf⟩ := ether_tags T (plainT typ) tail F hF
  obtain ⟨h1, h2, h3⟩ := plainT_not typ
  rw [hf, eth_else h1 h2 h3]

/-! ### PPPoE -/
theorem built1 (T : List Int) (adr cmp v6 : Bool) (tail F : List Int) (hF : F = (((tagL T 34916 T.length ++ [17, 0, 0, 1, 0, 0]) ++ cAdr adr) ++ cPro cmp v6) ++ tail) :
    etherM F.length (zz F) = some (wantv v6, (((tagL T 34916 T.length ++ [17, 0, 0, 1, 0, 0]) ++ cAdr adr) ++ cPro cmp v6).length) := by
  obtain ⟨f, hf⟩ := ether_tags T 34916 ([17, 0, 0, 1, 0, 0] ++ (cAdr adr ++ (cPro cmp v6 ++ tail))) F (by rw [hF]; simp only [List.append_assoc])
  have hl : F.length = 14 + 4 * T.length + 6 + (cAdr adr).length + (cPro cmp v6).length + tail.length := by rw [hF]; simp only [List.length_append, tagL_len]; simp
  rw [hf, eth_ppp rfl, if_pos (by omega)]
  have hp := pppM_built (tagL T 34916 T.length ++ [17, 0, 0, 1, 0, 0]) tail adr cmp v6
  have hF' : F = (tagL T 34916 T.length ++ [17, 0, 0, 1, 0, 0]) ++ (cAdr adr ++ (cPro cmp v6 ++ tail)) := by rw [hF]; simp only [List.append_assoc]
  rw [← hF'] at hp
  have hA : (tagL T 34916 T.length ++ [17, 0, 0, 1, 0, 0]).length = 14 + 4 * T.length + 6 := by rw [List.length_append, tagL_len]; rfl
  rw [hA] at hp
  rw [hp]
  simp only [List.length_append, tagL_len]
  rfl

/-! ### A label stack -/
def labL : Nat → List Int
  | 0 => []
  | n + 1 => labL n ++ [0, 16, 0, 64]
theorem labL_len (n : Nat) : (labL n).length = 4 * n := by
  induction n with
  | zero => rfl
  | succ n ih => unfold labL; rw [List.length_append, ih]; simp; omega
theorem labL_at (n : Nat) (X : List Int) : ∀ j, j < n → zz (labL n ++ X) (4 * j + 2) = 0 := by
  induction n generalizing X with
  | zero => intro j hj; omega
  | succ n ih =>
    intro j hj
    have e : labL (n + 1) ++ X = labL n ++ ([0, 16, 0, 64] ++ X) := by
      show (labL n ++ [0, 16, 0, 64]) ++ X = _
      rw [List.append_assoc]
    rw [e]
    by_cases h : j < n
    · exact ih _ j h
    · obtain rfl : j = n := by omega
      rw [zz_app (labL j) _ 2 _ (by rw [labL_len])]; rfl

theorem lab_built (A Y : List Int) (n : Nat) (F : List Int) (hF : F = A ++ (labL n ++ ([0, 16, 1, 64] ++ Y))) : labM (F.length + 1) F.length (zz F) A.length = some (A.length + 4 * n + 4) := by
  have hl : F.length = A.length + 4 * n + 4 + Y.length := by rw [hF]; simp only [List.length_append, labL_len]; simp; omega
  have hz0 : ∀ j, j < n → zz F (A.length + 4 * j + 2) = 0 := by
    intro j hj
    rw [hF, zz_app A _ (4 * j + 2) _ (by omega)]
    exact labL_at n _ j hj
  have hz1 : zz F (A.length + 4 * n + 2) = 1 := by
    rw [hF, zz_app A _ (4 * n + 2) _ (by omega), zz_app (labL n) _ 2 _ (by rw [labL_len])]; rfl
  have key : ∀ d f j, j + d = n → labM (f + d + 1) F.length (zz F) (A.length + 4 * j) = some (A.length + 4 * n + 4) := by
    intro d
    induction d with
    | zero =>
      intro f j hj
      obtain rfl : j = n := by omega
      exact lab_yes (by omega) (by rw [hz1]; rfl)
    | succ d ih =>
      intro f j hj
      rw [show f + (d + 1) + 1 = (f + d + 1) + 1 by omega, lab_no (by omega) (by rw [hz0 j (by omega)]; decide), show A.length + 4 * j + 4 = A.length + 4 * (j + 1) by omega]
      exact ih f (j + 1) (by omega)
  have := key n (F.length - n) 0 (by omega)
  rw [show F.length - n + n + 1 = F.length + 1 by omega] at this
  exact this

theorem isLab_lastv (k : Nat) (typ : Int) (h0 : ¬ k = 0) (h1 : ¬ k = 1) : isLab (lastv k typ) = true := by
  unfold lastv; rw [if_neg h0, if_neg h1]; split <;> decide

def ipB (v6 : Bool) : List Int := if v6 then [96] else [69]

theorem built2 (T : List Int) (last : Int) (hlab : isLab last = true) (n : Nat) (v6 : Bool) (tail F : List Int) (hF : F = ((((tagL T last T.length ++ labL n) ++ [0, 16, 1, 64]) ++ ipB v6) ++ tail)) :
    etherM F.length (zz F) = some (wantv v6, ((tagL T last T.length ++ labL n) ++ [0, 16, 1, 64]).length) := by
  have hF' : F = tagL T last T.length ++ (labL n ++ ([0, 16, 1, 64] ++ (ipB v6 ++ tail))) := by rw [hF]; simp only [List.append_assoc]
  obtain ⟨f, hf⟩ := ether_tags T last _ F hF'
  have hlm := lab_built (tagL T last T.length) (ipB v6 ++ tail) n F hF'
  rw [tagL_len] at hlm
  have hl : F.length = 14 + 4 * T.length + 4 * n + 4 + 1 + tail.length := by
    rw [hF]; simp only [List.length_append, tagL_len, labL_len]
    cases v6 <;> simp [ipB]
  have hz : zz F (14 + 4 * T.length + 4 * n + 4) = if v6 then 96 else 69 := by
    rw [hF]
    have e : ((((tagL T last T.length ++ labL n) ++ [0, 16, 1, 64]) ++ ipB v6) ++ tail) = ((tagL T last T.length ++ labL n) ++ [0, 16, 1, 64]) ++ (ipB v6 ++ tail) := by simp only [List.append_assoc]
    rw [e, zz_app0 _ _ _ (by simp only [List.length_append, tagL_len, labL_len]; rfl)]
    cases v6 <;> rfl
  rw [hf, eth_lab hlab, hlm]
  simp only []
  rw [if_neg (by rw [hz]; cases v6 <;> simp)]
  unfold rawM
  rw [if_neg (by omega), hz]
  have hlen : ((tagL T last T.length ++ labL n) ++ [0, 16, 1, 64]).length = 14 + 4 * T.length + 4 * n + 4 := by simp only [List.length_append, tagL_len, labL_len]; rfl
  rw [hlen]
  cases v6 <;> rfl

theorem built3 (T : List Int) (last : Int) (hlab : isLab last = true) (n : Nat) (typ : Int) (tail F : List Int)
    (hF : F = ((((((tagL T last T.length ++ labL n) ++ [0, 16, 1, 64]) ++ [0, 0, 0, 0]) ++ z12) ++ w16 (plainT typ)) ++ tail)) :
    etherM F.length (zz F) = some (plainT typ, (((((tagL T last T.length ++ labL n) ++ [0, 16, 1, 64]) ++ [0, 0, 0, 0]) ++ z12) ++ w16 (plainT typ)).length) := by
  have hF' : F = tagL T last T.length ++ (labL n ++ ([0, 16, 1, 64] ++ ([0, 0, 0, 0] ++ (z12 ++ (w16 (plainT typ) ++ tail))))) := by rw [hF]; simp only [List.append_assoc]
  obtain ⟨f, hf⟩ := ether_tags T last _ F hF'
  have hlm := lab_built (tagL T last T.length) ([0, 0, 0, 0] ++ (z12 ++ (w16 (plainT typ) ++ tail))) n F hF'
  rw [tagL_len] at hlm
  have hl : F.length = 14 + 4 * T.length + 4 * n + 4 + 18 + tail.length := by
    rw [hF]; simp only [List.length_append, tagL_len, labL_len]
    simp [z12, w16]
  have hA : ((tagL T last T.length ++ labL n) ++ [0, 16, 1, 64]).length = 14 + 4 * T.length + 4 * n + 4 := by simp only [List.length_append, tagL_len, labL_len]; rfl
  have hz : zz F (14 + 4 * T.length + 4 * n + 4) = 0 := by
    have e : F = ((tagL T last T.length ++ labL n) ++ [0, 16, 1, 64]) ++ ([0, 0, 0, 0] ++ (z12 ++ (w16 (plainT typ) ++ tail))) := by rw [hF]; simp only [List.append_assoc]
    rw [e, zz_app0 _ _ _ hA.symm]; rfl
  have hbe : be (zz F) (14 + 4 * T.length + 4 * n + 4 + 16) = plainT typ := by
    have e : F = ((((tagL T last T.length ++ labL n) ++ [0, 16, 1, 64]) ++ [0, 0, 0, 0]) ++ z12) ++ (w16 (plainT typ) ++ tail) := by rw [hF]; simp only [List.append_assoc]
    rw [e]
    exact be_w16 _ _ _ _ (by rw [List.length_append, List.length_append, hA]; rfl)
  obtain ⟨h1, h2, h3⟩ := plainT_not typ
  rw [hf, eth_lab hlab, hlm]
  simp only []
  rw [if_pos ⟨by omega, by rw [hz]; rfl⟩, if_pos (by omega), hbe, eth_else h1 h2 h3]
  have hlen : (((((tagL T last T.length ++ labL n) ++ [0, 16, 1, 64]) ++ [0, 0, 0, 0]) ++ z12) ++ w16 (plainT typ)).length = 14 + 4 * T.length + 4 * n + 4 + 18 := by
    rw [List.length_append, List.length_append, List.length_append, hA]; rfl
  rw [hlen]

end Go.Proofs.Ybulkcexy.Frame
