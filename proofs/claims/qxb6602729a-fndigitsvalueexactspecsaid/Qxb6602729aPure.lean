/- Plain functions and laws of seat b6602729a: no Go in sight. -/
import Derived.RowKit
namespace Go.Proofs.Qxb6602729a.Pd
open Go.RowKit

/-- A decimal digit. -/
def digB (c : Int) : Bool := decide (48 ≤ c ∧ c ≤ 57)

/-- The value of a row of digits, without any wrapping. -/
def V (l : List Int) : Int := l.foldl (fun a c => a * 10 + (c - 48)) 0

theorem V_nil : V [] = 0 := rfl
theorem V_snoc (l : List Int) (c : Int) : V (l ++ [c]) = V l * 10 + (c - 48) := by simp [V]
theorem V_from (l : List Int) (a : Int) : l.foldl (fun a c => a * 10 + (c - 48)) a = a * (10 : Int) ^ l.length + V l := by
  induction l generalizing a with
  | nil => simp [V]
  | cons c cs ih =>
    have e1 := ih (a * 10 + (c - 48))
    have e2 := ih (0 * 10 + (c - 48))
    simp only [List.foldl_cons, V] at e1 e2 ⊢
    rw [e1, e2, List.length_cons, Int.pow_succ]
    generalize (10 : Int) ^ cs.length = p
    generalize List.foldl (fun a c => a * 10 + (c - 48)) 0 cs = v
    have h1 : (a * 10 + (c - 48)) * p = a * (p * 10) + (c - 48) * p := by rw [Int.add_mul, Int.mul_assoc, Int.mul_comm 10 p]
    have h2 : (0 * 10 + (c - 48)) * p = (c - 48) * p := by rw [Int.zero_mul, Int.zero_add]
    rw [h1, h2]; omega
theorem V_cons (c : Int) (l : List Int) : V (c :: l) = (c - 48) * (10 : Int) ^ l.length + V l := by
  have := V_from l (0 * 10 + (c - 48))
  simp only [Int.zero_mul, Int.zero_add] at this
  simp only [V, List.foldl_cons, Int.zero_mul, Int.zero_add]
  exact this
theorem V_append (a b : List Int) : V (a ++ b) = V a * (10 : Int) ^ b.length + V b := by
  have := V_from b (V a)
  rw [← this]; simp [V]
theorem V_zeros (z : Nat) : V (List.replicate z 48) = 0 := by
  induction z with
  | zero => rfl
  | succ z ih => rw [List.replicate_succ, V_cons, ih]; simp

/-! Wrapping. -/
theorem wrap_congr (a b : Int) (h : a % 18446744073709551616 = b % 18446744073709551616) : wrap64 a = wrap64 b := by unfold wrap64; omega
theorem wrap_mod (a : Int) : wrap64 a % 18446744073709551616 = a % 18446744073709551616 := by unfold wrap64; omega
theorem wrap_in (a : Int) (h : -9223372036854775808 ≤ a ∧ a ≤ 9223372036854775807) : wrap64 a = a := by unfold wrap64; omega
theorem wrap_add_l (a b : Int) : wrap64 (wrap64 a + b) = wrap64 (a + b) := wrap_congr _ _ (by rw [Int.add_emod, wrap_mod, ← Int.add_emod])
theorem wrap_add_r (a b : Int) : wrap64 (a + wrap64 b) = wrap64 (a + b) := wrap_congr _ _ (by rw [Int.add_emod, wrap_mod, ← Int.add_emod])
theorem wrap_mul_l (a b : Int) : wrap64 (wrap64 a * b) = wrap64 (a * b) := wrap_congr _ _ (by rw [Int.mul_emod, wrap_mod, ← Int.mul_emod])
theorem wrap_mul_r (a b : Int) : wrap64 (a * wrap64 b) = wrap64 (a * b) := wrap_congr _ _ (by rw [Int.mul_emod, wrap_mod, ← Int.mul_emod])

/-- The loop's step from the left. -/
theorem step_left (l : List Int) (c : Int) : wrap64 (wrap64 (wrap64 (V l) * 10) + (c - 48)) = wrap64 (V (l ++ [c])) := by
  rw [wrap_add_l, V_snoc, ← wrap_add_l, wrap_mul_l, wrap_add_l]

/-- 'digitsValue'. -/
def dval (l : List Int) : Int × Bool := if l.all digB = true then (wrap64 (V l), true) else (0, false)
theorem dval_yes (l : List Int) (h : ∀ c ∈ l, digB c = true) : dval l = (wrap64 (V l), true) := by
  unfold dval; rw [if_pos (List.all_eq_true.2 h)]
theorem dval_no (l : List Int) (c : Int) (hc : c ∈ l) (h : digB c = false) : dval l = (0, false) := by
  unfold dval
  rw [if_neg]
  intro hh
  have := List.all_eq_true.1 hh c hc
  rw [h] at this; cases this

/-- A string's bytes, as numbers. -/
def sb (s : ByteArray) : List Int := s.data.toList.map fun c => (c.toNat : Int)
theorem sb_length (s : ByteArray) : (sb s).length = s.size := by simp [sb]
theorem sb_get (s : ByteArray) (k : Nat) (h : k < s.size) : (sb s)[k]'(by rw [sb_length]; exact h) = (s[k].toNat : Int) := by
  simp [sb]; rfl
theorem sb_take (s : ByteArray) (k : Nat) (h : k < s.size) : (sb s).take (k + 1) = (sb s).take k ++ [(s[k].toNat : Int)] := by
  rw [List.take_succ_eq_append_getElem (by rw [sb_length]; exact h), sb_get s k h]
theorem sb_mem (s : ByteArray) (k : Nat) (h : k < s.size) : (s[k].toNat : Int) ∈ sb s := by
  rw [← sb_get s k h]; exact List.getElem_mem _
theorem sb_all (s : ByteArray) (k : Nat) (h : s.size ≤ k) : (sb s).take k = sb s := List.take_of_length_le (by rw [sb_length]; exact h)

end Go.Proofs.Qxb6602729a.Pd
