/- Plain functions and laws on values: no Go in sight. -/
import Derived.Test.Qxb6602720aNumP
namespace Go.Proofs.Qxb6602720a.Pj

/-- The word W stands at place i. -/
def hasW (zs : List Int) (i : Nat) (W : List Int) : Bool := decide (i + W.length ≤ zs.length ∧ ∀ t, t < W.length → zs.getD (i + t) 0 = W.getD t 0)

theorem hasW_yes (zs : List Int) (i : Nat) (W : List Int) (h : i + W.length ≤ zs.length) (hw : ∀ t, t < W.length → zs.getD (i + t) 0 = W.getD t 0) : hasW zs i W = true := decide_eq_true ⟨h, hw⟩
theorem hasW_short (zs : List Int) (i : Nat) (W : List Int) (h : ¬ i + W.length ≤ zs.length) : hasW zs i W = false := decide_eq_false fun x => h x.1
theorem hasW_no (zs : List Int) (i : Nat) (W : List Int) (t : Nat) (ht : t < W.length) (hw : zs.getD (i + t) 0 ≠ W.getD t 0) : hasW zs i W = false := decide_eq_false fun x => hw (x.2 t ht)
theorem hasW_first (zs : List Int) (i : Nat) (x : Int) (W : List Int) (c : Int) (hc : zs.getD i 0 = c) (h : c ≠ x) : hasW zs i (x :: W) = false :=
  hasW_no zs i (x :: W) 0 (by simp) (by rw [Nat.add_zero, hc]; exact h)

def wTrue : List Int := [116, 114, 117, 101]
def wFalse : List Int := [102, 97, 108, 115, 101]
def wNull : List Int := [110, 117, 108, 108]

def words (zs : List Int) (i : Nat) : Int × Bool :=
  if hasW zs i wTrue = true then ((i : Int) + 4, true) else if hasW zs i wFalse = true then ((i : Int) + 5, true) else if hasW zs i wNull = true then ((i : Int) + 4, true) else (0, false)

/-- 'plainValue': the value that starts at place i. -/
def pv (zs : List Int) (i : Nat) : Int × Bool :=
  if zs.length ≤ i then (0, false) else if zs.getD i 0 = 34 then ps zs i else if zs.getD i 0 = 45 ∨ digB (zs.getD i 0) = true then wn zs i else words zs i

theorem pv_end (zs : List Int) (i : Nat) (h : zs.length ≤ i) : pv zs i = (0, false) := by unfold pv; rw [if_pos h]
theorem pv_str (zs : List Int) (i : Nat) (h : i < zs.length) (hc : zs.getD i 0 = 34) : pv zs i = ps zs i := by unfold pv; rw [if_neg (by omega), if_pos hc]
theorem pv_num (zs : List Int) (i : Nat) (h : i < zs.length) (c : Int) (hc : zs.getD i 0 = c) (h34 : c ≠ 34) (hn : c = 45 ∨ digB c = true) : pv zs i = wn zs i := by
  unfold pv; rw [if_neg (by omega), hc, if_neg h34, if_pos hn]
theorem pv_word (zs : List Int) (i : Nat) (h : i < zs.length) (c : Int) (hc : zs.getD i 0 = c) (h34 : c ≠ 34) (hn : ¬ (c = 45 ∨ digB c = true)) : pv zs i = words zs i := by
  unfold pv; rw [if_neg (by omega), hc, if_neg h34, if_neg hn]

theorem words_true (zs : List Int) (i : Nat) (h : hasW zs i wTrue = true) : words zs i = ((i : Int) + 4, true) := by unfold words; rw [if_pos h]
theorem words_false (zs : List Int) (i : Nat) (h0 : hasW zs i wTrue = false) (h : hasW zs i wFalse = true) : words zs i = ((i : Int) + 5, true) := by unfold words; rw [if_neg (by simp [h0]), if_pos h]
theorem words_null (zs : List Int) (i : Nat) (h0 : hasW zs i wTrue = false) (h1 : hasW zs i wFalse = false) (h : hasW zs i wNull = true) : words zs i = ((i : Int) + 4, true) := by unfold words; rw [if_neg (by simp [h0]), if_neg (by simp [h1]), if_pos h]
theorem words_none (zs : List Int) (i : Nat) (h0 : hasW zs i wTrue = false) (h1 : hasW zs i wFalse = false) (h : hasW zs i wNull = false) : words zs i = (0, false) := by unfold words; rw [if_neg (by simp [h0]), if_neg (by simp [h1]), if_neg (by simp [h])]

/-! A refusal answers 0. -/
theorem scan_zero (l : List Int) (j : Nat) (h : (psScan l j).2 = false) : psScan l j = (0, false) := by
  induction l generalizing j with
  | nil => rfl
  | cons c cs ih =>
    simp only [psScan] at h ⊢
    split at h
    · cases h
    · rename_i h34
      rw [if_neg h34]
      split at h
      · rename_i hb; rw [if_pos hb]
      · rename_i hb; rw [if_neg hb]; exact ih (j + 1) h
theorem ps_zero (zs : List Int) (i : Nat) (h : (ps zs i).2 = false) : ps zs i = (0, false) := by
  unfold ps at h ⊢
  split at h
  · rfl
  · split at h
    · rename_i h34; simp only [h34, if_true]; exact scan_zero _ _ h
    · rename_i h34; simp only [h34, if_false]
theorem from_zero (zs : List Int) (s : Nat) (h : (wnFrom zs s).2 = false) : wnFrom zs s = (0, false) := by
  unfold wnFrom at h ⊢
  split at h
  · rename_i h1; rw [if_pos h1]
  · cases h
theorem wn_zero_of (zs : List Int) (i : Nat) (h : (wn zs i).2 = false) : wn zs i = (0, false) := by
  unfold wn at h ⊢
  split at h
  · rename_i h1; rw [if_pos h1]; exact from_zero _ _ h
  · rename_i h1; rw [if_neg h1]; exact from_zero _ _ h

theorem wn_other (zs : List Int) (i : Nat) (h : i < zs.length) (c : Int) (hc : zs.getD i 0 = c) (h45 : c ≠ 45) (hd : digB c = false) : wn zs i = (0, false) := by
  rw [wn_plain zs i c hc h45]; exact m_nodig zs i h c hc hd

/-- THE PLAIN LAW of FnPlainValueMatchesModel: the union of the three languages, in the model's order. -/
theorem model_pv (zs : List Int) (i : Nat) (h : i < zs.length) : pv zs i = if (ps zs i).2 = true then ps zs i else if (wn zs i).2 = true then wn zs i else words zs i := by
  obtain ⟨c, hc⟩ : ∃ c, zs.getD i 0 = c := ⟨_, rfl⟩
  by_cases h34 : c = 34
  · subst h34
    rw [pv_str zs i h hc]
    by_cases hp : (ps zs i).2 = true
    · rw [if_pos hp]
    · rw [if_neg hp, wn_other zs i h 34 hc (by decide) (by decide), if_neg (by simp), words_none zs i (hasW_first zs i _ _ 34 hc (by decide)) (hasW_first zs i _ _ 34 hc (by decide)) (hasW_first zs i _ _ 34 hc (by decide))]
      exact ps_zero zs i (by simpa using hp)
  · have hps : ps zs i = (0, false) := ps_other zs i h c hc h34
    rw [hps, if_neg (by simp)]
    by_cases hn : c = 45 ∨ digB c = true
    · rw [pv_num zs i h c hc h34 hn]
      by_cases hw : (wn zs i).2 = true
      · rw [if_pos hw]
      · have hlet : ∀ x, x = 116 ∨ x = 102 ∨ x = 110 → c ≠ x := by
          intro x hx he
          subst he
          rcases hn with rfl | hd
          · omega
          · simp [digB] at hd; omega
        rw [if_neg hw, words_none zs i (hasW_first zs i _ _ c hc (hlet 116 (by omega))) (hasW_first zs i _ _ c hc (hlet 102 (by omega))) (hasW_first zs i _ _ c hc (hlet 110 (by omega)))]
        exact wn_zero_of zs i (by simpa using hw)
    · have hd : digB c = false := by
        cases hx : digB c with
        | false => rfl
        | true => exact absurd (Or.inr hx) hn
      rw [pv_word zs i h c hc h34 hn, wn_other zs i h c hc (fun e => hn (Or.inl e)) hd, if_neg (by simp)]

/-! The string's model: first the closing quote, then what lies between. -/
theorem scan_adv (zs : List Int) (a d : Nat) (h : a + d ≤ zs.length) (hp : ∀ t, a ≤ t → t < a + d → zs.getD t 0 ≠ 34 ∧ plainB (zs.getD t 0) = true) : psScan (zs.drop a) a = psScan (zs.drop (a + d)) (a + d) := by
  induction d with
  | zero => rfl
  | succ d ih =>
    rw [ih (by omega) (fun t h1 h2 => hp t h1 (by omega))]
    have h0 := hp (a + d) (by omega) (by omega)
    have h1 : 32 ≤ zs.getD (a + d) 0 ∧ zs.getD (a + d) 0 ≤ 126 ∧ zs.getD (a + d) 0 ≠ 92 := by simpa only [plainB, decide_eq_true_eq] using h0.2
    exact scan_on zs (a + d) (by omega) _ rfl h0.1 (by omega)

theorem scan_noquote (zs : List Int) (a : Nat) (hp : ∀ t, a ≤ t → t < zs.length → zs.getD t 0 ≠ 34) : psScan (zs.drop a) a = (0, false) := by
  obtain ⟨d, hd⟩ : ∃ d, d = zs.length - a := ⟨_, rfl⟩
  induction d generalizing a with
  | zero => exact scan_end zs a (by omega)
  | succ d ih =>
    have hl : a < zs.length := by omega
    by_cases hb : zs.getD a 0 < 32 ∨ 126 < zs.getD a 0 ∨ zs.getD a 0 = 92
    · exact scan_bad zs a hl _ rfl (hp a (Nat.le_refl _) hl) hb
    · rw [scan_on zs a hl _ rfl (hp a (Nat.le_refl _) hl) hb]
      exact ih (a + 1) (fun t h1 h2 => hp t (by omega) h2) (by omega)

theorem scan_found (zs : List Int) (a k : Nat) (hak : a ≤ k) (hk : k < zs.length) (hq : zs.getD k 0 = 34) (hp : ∀ t, a ≤ t → t < k → zs.getD t 0 ≠ 34 ∧ plainB (zs.getD t 0) = true) : psScan (zs.drop a) a = ((k : Int) + 1, true) := by
  obtain ⟨d, rfl⟩ : ∃ d, k = a + d := ⟨k - a, by omega⟩
  rw [scan_adv zs a d (by omega) hp]; exact scan_quote zs _ hk hq

theorem scan_spoilt (zs : List Int) (a j : Nat) (haj : a ≤ j) (hj : j < zs.length) (hq : zs.getD j 0 ≠ 34) (hb : plainB (zs.getD j 0) = false) (hp : ∀ t, a ≤ t → t < j → zs.getD t 0 ≠ 34 ∧ plainB (zs.getD t 0) = true) : psScan (zs.drop a) a = (0, false) := by
  obtain ⟨d, rfl⟩ : ∃ d, j = a + d := ⟨j - a, by omega⟩
  have h1 : ¬ (32 ≤ zs.getD (a + d) 0 ∧ zs.getD (a + d) 0 ≤ 126 ∧ zs.getD (a + d) 0 ≠ 92) := by simpa only [plainB, decide_eq_false_iff_not] using hb
  rw [scan_adv zs a d (by omega) hp]; exact scan_bad zs _ hj _ rfl hq (by omega)

end Go.Proofs.Qxb6602720a.Pj
