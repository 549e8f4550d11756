/- Bits of int32's numbers, as the walk spells them: no Go in sight. -/
import Derived.Laws.BitsLemmas
import Derived.Laws.DeepBits32
namespace Go.Proofs.Qxb6603607a.Pb
open Go

theorem i32_or_join (i : Nat) (x y : Int) (hx₀ : 0 ≤ x) (hx : x % 2 ^ i = 0) (hx₁ : x < 2147483648) (h₀ : 0 ≤ y) (h₁ : y < 2 ^ i) (h2 : y < 2147483648) : bits .or .i32 x y = x + y :=
  bits_join .i32 31 (by decide) wraps_i32 i x y hx₀ hx hx₁ h₀ h₁ h2
theorem i32_and63 (x : Int) (h₀ : 0 ≤ x) (h₁ : x < 2147483648) : bits .and .i32 x 63 = x % 64 := bits_mask .i32 31 (by decide) wraps_i32 6 (by decide) x h₀ h₁

theorem nat_i32 (a b : Nat) (ha : a < 2147483648) (hb : b < 2147483648) : bits .and .i32 a b = ((a &&& b : Nat) : Int) ∧ bits .or .i32 a b = ((a ||| b : Nat) : Int) :=
  bits_nat .i32 31 (by decide) wraps_i32 a b ha hb

/-- The mark: bit 30. -/
theorem or_mark (r : Nat) (h : r < 1073741824) : bits .or .i32 (r : Int) 1073741824 = (r : Int) + 1073741824 := by
  have h1 := (nat_i32 r 1073741824 (by omega) (by omega)).2
  rw [show ((1073741824 : Nat) : Int) = 1073741824 from rfl] at h1
  rw [h1, Nat.or_comm]
  have h2 := Nat.two_pow_add_eq_or_of_lt (b := r) (i := 30) h 1
  rw [Nat.mul_one, show 2 ^ 30 = 1073741824 from rfl] at h2
  rw [← h2]; omega

theorem and_low (x : Nat) : (x &&& 1073741824) % 1073741824 = 0 := by
  have h := Nat.and_mod_two_pow (a := x) (b := 1073741824) (n := 30)
  rw [show 1073741824 % 2 ^ 30 = 0 from rfl, Nat.and_zero] at h
  exact h
theorem and_bit (x : Nat) (b : Bool) (h : x.testBit 30 = b) : x &&& 1073741824 = if b = true then 1073741824 else 0 := by
  have h1 := and_low x
  have h2 : (x &&& 1073741824).testBit 30 = b := by rw [Nat.testBit_and, show Nat.testBit 1073741824 30 = true from by decide, Bool.and_true]; exact h
  have h3 : x &&& 1073741824 ≤ 1073741824 := Nat.and_le_right
  rw [Nat.testBit_eq_decide_div_mod_eq] at h2
  cases b with
  | true =>
    have h4 : (x &&& 1073741824) / 1073741824 % 2 = 1 := of_decide_eq_true h2
    rw [if_pos rfl]; omega
  | false =>
    have h4 : ¬ (x &&& 1073741824) / 1073741824 % 2 = 1 := of_decide_eq_false h2
    rw [if_neg (by simp)]; omega

theorem and_no (r : Nat) (h : r < 1073741824) : bits .and .i32 (r : Int) 1073741824 = 0 := by
  have h1 := (nat_i32 r 1073741824 (by omega) (by omega)).1
  rw [show ((1073741824 : Nat) : Int) = 1073741824 from rfl] at h1
  rw [h1, and_bit r false (Nat.testBit_lt_two_pow h)]; rfl

theorem bit30 (r : Nat) (h : r < 1073741824) : (r + 1073741824).testBit 30 = true := by
  rw [Nat.testBit_eq_decide_div_mod_eq]
  have : (r + 1073741824) / 2 ^ 30 = 1 := by
    show (r + 1073741824) / 1073741824 = 1
    omega
  rw [this]; rfl

theorem and_yes (r : Nat) (h : r < 1073741824) : bits .and .i32 ((r : Int) + 1073741824) 1073741824 = 1073741824 := by
  have h1 := (nat_i32 (r + 1073741824) 1073741824 (by omega) (by omega)).1
  rw [show ((1073741824 : Nat) : Int) = 1073741824 from rfl, show ((r + 1073741824 : Nat) : Int) = (r : Int) + 1073741824 from by omega] at h1
  rw [h1, and_bit _ true (bit30 r h)]; rfl

theorem mask_low (x : Nat) : (x &&& 3221225471) % 1073741824 = x % 1073741824 := by
  have h := Nat.and_mod_two_pow (a := x) (b := 3221225471) (n := 30)
  rw [show 3221225471 % 2 ^ 30 = 2 ^ 30 - 1 from rfl, Nat.and_two_pow_sub_one_eq_mod, Nat.mod_mod] at h
  exact h
theorem mask_bit (x : Nat) : (x &&& 3221225471).testBit 30 = false := by
  rw [Nat.testBit_and, show Nat.testBit 3221225471 30 = false from by decide, Bool.and_false]
theorem mask_is (x : Nat) (h : x < 2147483648) : x &&& 3221225471 = x % 1073741824 := by
  have h1 := mask_low x
  have h2 := mask_bit x
  rw [Nat.testBit_eq_decide_div_mod_eq, decide_eq_false_iff_not] at h2
  have h3 : x &&& 3221225471 ≤ x := Nat.and_le_left
  have h4 : ¬ (x &&& 3221225471) / 1073741824 % 2 = 1 := h2
  omega

theorem andNot_i32 (x : Nat) (h : x < 2147483648) : bits .andNot .i32 (x : Int) 1073741824 = ((x % 1073741824 : Nat) : Int) := by
  show IntKind.i32.wrap ((BitVec.ofInt 32 (x : Int) &&& ~~~BitVec.ofInt 32 1073741824).toNat : Int) = _
  have h1 : (BitVec.ofInt 32 1073741824).toNat = 1073741824 := by decide
  rw [BitVec.toNat_and, BitVec.toNat_not, ofInt_u32 x (by omega), h1, show 2 ^ 32 - 1 - 1073741824 = 3221225471 by decide, mask_is x h]
  exact wrap_i32_small _ (by omega) (by omega)
theorem not_no (r : Nat) (h : r < 1073741824) : bits .andNot .i32 (r : Int) 1073741824 = (r : Int) := by
  rw [andNot_i32 r (by omega)]; omega
theorem not_yes (r : Nat) (h : r < 1073741824) : bits .andNot .i32 ((r : Int) + 1073741824) 1073741824 = (r : Int) := by
  have := andNot_i32 (r + 1073741824) (by omega)
  rw [show ((r + 1073741824 : Nat) : Int) = (r : Int) + 1073741824 from by omega] at this
  rw [this]; omega

end Go.Proofs.Qxb6603607a.Pb
