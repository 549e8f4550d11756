/- Plain functions and laws on whole numbers: no Go in sight. -/
import Derived.Test.Qxb6602720aPure
namespace Go.Proofs.Qxb6602720a.Pj

/-- How many digits stand from place k on. -/
def dg (zs : List Int) (k : Nat) : Nat := ((zs.drop k).takeWhile digB).length

theorem dg_step (zs : List Int) (k : Nat) (h : k < zs.length) (c : Int) (hc : zs.getD k 0 = c) (hd : digB c = true) : dg zs k = dg zs (k + 1) + 1 := by
  unfold dg; rw [drop_cons zs k h, hc, List.takeWhile_cons, if_pos hd]; rfl

theorem dg_stop (zs : List Int) (k : Nat) (h : k < zs.length) (c : Int) (hc : zs.getD k 0 = c) (hd : digB c = false) : dg zs k = 0 := by
  unfold dg; rw [drop_cons zs k h, hc, List.takeWhile_cons, if_neg (by simp [hd])]; rfl

theorem dg_end (zs : List Int) (k : Nat) (h : zs.length ≤ k) : dg zs k = 0 := by
  unfold dg; rw [drop_end zs k h]; rfl

theorem dg_le (zs : List Int) (k : Nat) (h : k ≤ zs.length) : k + dg zs k ≤ zs.length := by
  unfold dg
  have := (List.takeWhile_prefix (p := digB) (l := zs.drop k)).length_le
  simp at this; omega

/-- The whole number whose digits start at place s. -/
def wnFrom (zs : List Int) (s : Nat) : Int × Bool :=
  if dg zs s = 0 ∨ (zs.getD s 0 = 48 ∧ 1 < dg zs s) then (0, false) else (((s + dg zs s : Nat) : Int), true)

/-- 'wholeNumber': the number that starts at place i. -/
def wn (zs : List Int) (i : Nat) : Int × Bool := if zs.getD i 0 = 45 then wnFrom zs (i + 1) else wnFrom zs i

theorem wn_minus (zs : List Int) (i : Nat) (h : zs.getD i 0 = 45) : wn zs i = wnFrom zs (i + 1) := by unfold wn; rw [if_pos h]
theorem wn_plain (zs : List Int) (i : Nat) (c : Int) (h : zs.getD i 0 = c) (hc : c ≠ 45) : wn zs i = wnFrom zs i := by unfold wn; rw [h, if_neg hc]

/-- What a walk of the digits comes to: it stands at k, the first place that holds no digit. -/
theorem wn_none (zs : List Int) (s k : Nat) (h : k + dg zs k = s + dg zs s) (h0 : dg zs k = 0) (hk : k = s) : wnFrom zs s = (0, false) := by
  unfold wnFrom; rw [if_pos (Or.inl (by omega))]
theorem wn_zeros (zs : List Int) (s k : Nat) (h : k + dg zs k = s + dg zs s) (h0 : dg zs k = 0) (hz : zs.getD s 0 = 48) (hk : s + 1 < k) : wnFrom zs s = (0, false) := by
  unfold wnFrom; rw [if_pos (Or.inr ⟨hz, by omega⟩)]
theorem wn_zero (zs : List Int) (s k : Nat) (h : k + dg zs k = s + dg zs s) (h0 : dg zs k = 0) (hk : k = s + 1) : wnFrom zs s = ((k : Int), true) := by
  have e : s + dg zs s = k := by omega
  unfold wnFrom; rw [if_neg (by omega), e]
theorem wn_digits (zs : List Int) (s k : Nat) (h : k + dg zs k = s + dg zs s) (h0 : dg zs k = 0) (c : Int) (hc : zs.getD s 0 = c) (hz : c ≠ 48) (hk : s < k) : wnFrom zs s = ((k : Int), true) := by
  have e : s + dg zs s = k := by omega
  unfold wnFrom; rw [if_neg (by rw [hc]; omega), e]

/-! The case table's ways. -/
theorem m_end (zs : List Int) (s : Nat) (h : zs.length ≤ s) : wnFrom zs s = (0, false) := by
  unfold wnFrom; rw [if_pos (Or.inl (dg_end zs s h))]
theorem m_nodig (zs : List Int) (s : Nat) (h : s < zs.length) (c : Int) (hc : zs.getD s 0 = c) (hd : digB c = false) : wnFrom zs s = (0, false) := by
  unfold wnFrom; rw [if_pos (Or.inl (dg_stop zs s h c hc hd))]
theorem m_00 (zs : List Int) (s : Nat) (h : s + 1 < zs.length) (hc : zs.getD s 0 = 48) (d : Int) (hd : zs.getD (s + 1) 0 = d) (hdd : digB d = true) : wnFrom zs s = (0, false) := by
  have h1 := dg_step zs s (by omega) 48 hc (by decide)
  have h2 := dg_step zs (s + 1) h d hd hdd
  unfold wnFrom; rw [if_pos (Or.inr ⟨hc, by omega⟩)]
theorem m_0_end (zs : List Int) (s : Nat) (h : s < zs.length) (hc : zs.getD s 0 = 48) (he : zs.length ≤ s + 1) : wnFrom zs s = ((s : Int) + 1, true) := by
  have h1 := dg_step zs s h 48 hc (by decide)
  have h2 := dg_end zs (s + 1) he
  have e : s + dg zs s = s + 1 := by omega
  unfold wnFrom; rw [if_neg (by omega), e]; simp
theorem m_0 (zs : List Int) (s : Nat) (h : s + 1 < zs.length) (hc : zs.getD s 0 = 48) (d : Int) (hd : zs.getD (s + 1) 0 = d) (hdd : digB d = false) : wnFrom zs s = ((s : Int) + 1, true) := by
  have h1 := dg_step zs s (by omega) 48 hc (by decide)
  have h2 := dg_stop zs (s + 1) h d hd hdd
  have e : s + dg zs s = s + 1 := by omega
  unfold wnFrom; rw [if_neg (by omega), e]; simp
theorem m_loop (zs : List Int) (s : Nat) (h : s < zs.length) (c : Int) (hc : zs.getD s 0 = c) (hd : digB c = true) (h48 : c ≠ 48) (e : Nat) (he : e + dg zs e = (s + 1) + dg zs (s + 1)) (h0 : dg zs e = 0) : wnFrom zs s = ((e : Int), true) := by
  have h1 := dg_step zs s h c hc hd
  have e' : s + dg zs s = e := by omega
  unfold wnFrom; rw [if_neg (by rw [hc]; omega), e']

/-- A minus sign or none, then digits, the first of them no zero unless it stands alone. -/
def IsDec (D : List Int) : Prop :=
  ∃ x ds, (D = x :: ds ∨ D = 45 :: x :: ds) ∧ (∀ c ∈ x :: ds, digB c = true) ∧ (ds = [] ∨ x ≠ 48) ∧ ds.length ≤ 19

theorem takeWhile_run (ds Q : List Int) (h : ∀ c ∈ ds, digB c = true) (hQ : ∀ q r, Q = q :: r → digB q = false) : (ds ++ Q).takeWhile digB = ds := by
  induction ds with
  | nil =>
    cases Q with
    | nil => rfl
    | cons q r => simp [hQ q r rfl]
  | cons c cs ih =>
    have hc := h c (by simp)
    show (c :: (cs ++ Q)).takeWhile digB = _
    rw [List.takeWhile_cons, if_pos hc, ih (fun x hx => h x (by simp [hx]))]

theorem from_run (A ds Q : List Int) (x : Int) (h : ∀ c ∈ x :: ds, digB c = true) (h0 : ds = [] ∨ x ≠ 48) (hQ : ∀ q r, Q = q :: r → digB q = false) :
    wnFrom (A ++ (x :: ds ++ Q)) A.length = (((A.length + (ds.length + 1) : Nat) : Int), true) := by
  have hdg : dg (A ++ (x :: ds ++ Q)) A.length = ds.length + 1 := by
    unfold dg; rw [List.drop_left, takeWhile_run (x :: ds) Q h hQ]; rfl
  have hg : (A ++ (x :: ds ++ Q)).getD A.length 0 = x := by simp [List.getD_eq_getElem?_getD]
  unfold wnFrom
  rw [hdg, hg, if_neg]
  rintro (h1 | ⟨h1, h2⟩)
  · omega
  · rcases h0 with rfl | h0
    · simp at h2
    · exact h0 h1

/-- THE PLAIN LAW of FnWholeNumberReadsDecimal. -/
theorem wn_dec (P D Q : List Int) (hD : IsDec D) (hQ : ∀ q r, Q = q :: r → digB q = false) : wn ((P ++ D) ++ Q) P.length = ((P.length : Int) + (D.length : Int), true) := by
  obtain ⟨x, ds, hw, h, h0, _⟩ := hD
  have hx : digB x = true := h x (by simp)
  rcases hw with rfl | rfl
  · have e : (P ++ x :: ds) ++ Q = P ++ (x :: ds ++ Q) := by simp
    have hg : (P ++ (x :: ds ++ Q)).getD P.length 0 = x := by simp [List.getD_eq_getElem?_getD]
    rw [e, wn_plain _ _ x hg (by intro h45; subst h45; simp [digB] at hx), from_run P ds Q x h h0 hQ]
    simp
  · have e : (P ++ 45 :: x :: ds) ++ Q = (P ++ [45]) ++ (x :: ds ++ Q) := by simp
    have hg : ((P ++ [45]) ++ (x :: ds ++ Q)).getD P.length 0 = 45 := by simp [List.getD_eq_getElem?_getD]
    have hl : P.length + 1 = (P ++ [45]).length := by simp
    rw [e, wn_minus _ _ hg, hl, from_run (P ++ [45]) ds Q x h h0 hQ]
    simp; omega

end Go.Proofs.Qxb6602720a.Pj
