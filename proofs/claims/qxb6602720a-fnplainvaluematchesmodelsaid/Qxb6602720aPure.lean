/- Plain functions and laws of seat b6602720a: no Go in sight. -/
namespace Go.Proofs.Qxb6602720a.Pj

/-- 'plainString' behind its opening quote: the bytes that are left, and the place of the first of them. -/
def psScan : List Int → Nat → Int × Bool
  | [], _ => (0, false)
  | c :: cs, j => if c = 34 then ((j : Int) + 1, true) else if c < 32 ∨ 126 < c ∨ c = 92 then (0, false) else psScan cs (j + 1)

/-- 'plainString': the string that starts at place i. -/
def ps (zs : List Int) (i : Nat) : Int × Bool :=
  match zs.drop i with
  | [] => (0, false)
  | c :: cs => if c = 34 then psScan cs (i + 1) else (0, false)

theorem drop_cons (zs : List Int) (k : Nat) (h : k < zs.length) : zs.drop k = zs.getD k 0 :: zs.drop (k + 1) := by
  rw [List.drop_eq_getElem_cons h]; simp [List.getD_eq_getElem?_getD, h]

theorem drop_end (zs : List Int) (k : Nat) (h : zs.length ≤ k) : zs.drop k = [] := List.drop_eq_nil_of_le h

theorem ps_end (zs : List Int) (i : Nat) (h : zs.length ≤ i) : ps zs i = (0, false) := by
  unfold ps; rw [drop_end zs i h]

theorem ps_other (zs : List Int) (i : Nat) (h : i < zs.length) (c : Int) (hc : zs.getD i 0 = c) (hq : c ≠ 34) : ps zs i = (0, false) := by
  unfold ps; rw [drop_cons zs i h, hc]; simp [hq]

theorem ps_quote (zs : List Int) (i : Nat) (h : i < zs.length) (hc : zs.getD i 0 = 34) : ps zs i = psScan (zs.drop (i + 1)) (i + 1) := by
  unfold ps; rw [drop_cons zs i h, hc]; simp

theorem scan_quote (zs : List Int) (k : Nat) (h : k < zs.length) (hc : zs.getD k 0 = 34) : psScan (zs.drop k) k = ((k : Int) + 1, true) := by
  rw [drop_cons zs k h, hc]; simp [psScan]

theorem scan_bad (zs : List Int) (k : Nat) (h : k < zs.length) (c : Int) (hc : zs.getD k 0 = c) (hq : c ≠ 34) (hb : c < 32 ∨ 126 < c ∨ c = 92) : psScan (zs.drop k) k = (0, false) := by
  rw [drop_cons zs k h, hc]; simp [psScan, hq, hb]

theorem scan_on (zs : List Int) (k : Nat) (h : k < zs.length) (c : Int) (hc : zs.getD k 0 = c) (hq : c ≠ 34) (hb : ¬ (c < 32 ∨ 126 < c ∨ c = 92)) : psScan (zs.drop k) k = psScan (zs.drop (k + 1)) (k + 1) := by
  rw [drop_cons zs k h, hc]; simp only [psScan]; rw [if_neg hq, if_neg hb]

theorem scan_end (zs : List Int) (k : Nat) (h : zs.length ≤ k) : psScan (zs.drop k) k = (0, false) := by
  rw [drop_end zs k h]; rfl

/-- A byte that a plain string may hold before its closing quote. -/
def plainB (c : Int) : Bool := decide (32 ≤ c ∧ c ≤ 126 ∧ c ≠ 92)

/-- A decimal digit. -/
def digB (c : Int) : Bool := decide (48 ≤ c ∧ c ≤ 57)

theorem scan_plain (s tail : List Int) (j : Nat) (h : ∀ c ∈ s, c ≠ 34 ∧ plainB c = true) : psScan (s ++ 34 :: tail) j = ((j : Int) + s.length + 1, true) := by
  induction s generalizing j with
  | nil => simp [psScan]
  | cons c cs ih =>
    have hc := h c (by simp)
    have hp : 32 ≤ c ∧ c ≤ 126 ∧ c ≠ 92 := by simpa [plainB] using hc.2
    show psScan (c :: (cs ++ 34 :: tail)) j = _
    simp only [psScan]
    rw [if_neg hc.1, if_neg (by omega), ih (j + 1) (fun x hx => h x (by simp [hx]))]
    simp; omega

/-- THE PLAIN LAW of FnPlainStringQuotedRoundTrip. -/
theorem ps_round (pre s tail : List Int) (h : ∀ c ∈ s, c ≠ 34 ∧ plainB c = true) :
    ps (pre ++ (34 :: (s ++ 34 :: tail))) pre.length = ((pre.length : Int) + s.length + 2, true) := by
  unfold ps
  rw [List.drop_left]
  show (if (34 : Int) = 34 then _ else _) = _
  rw [if_pos rfl, scan_plain s tail _ h]
  simp; omega

end Go.Proofs.Qxb6602720a.Pj
