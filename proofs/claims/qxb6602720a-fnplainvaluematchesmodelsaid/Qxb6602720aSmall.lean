/- The walks of the small functions: the bounds on total length, the tests on one byte. -/
import Derived.Test.Qxb6602720aProg
import Derived.Test.Qxb6602720aPure
import Derived.WalkKit
import Derived.Outline
import Derived.WalkSpells
namespace Go.Proofs.Qxb6602720a
open Go.RowKit
open Go.Proofs.Qxb6602720a.Pj

theorem bytes16_yes (a0 a1 a2 : Option Addr) (l0 c0 l1 c1 l2 c2 : Nat) (w : World) (h : l0 + l1 + l2 ≤ 1048576) :
    Calls Try.prog 16 #[.slice a0 l0 c0, .slice a1 l1 c1, .slice a2 l2 c2] w fun e w' => e = .returned (.bool true) ∧ w' = w := by
  go_enter Try.func16, Try.ntmps16
  go_wp2
  go_ret
  exact ⟨rfl, rfl⟩

theorem bytes16_no (a0 a1 a2 : Option Addr) (l0 c0 l1 c1 l2 c2 : Nat) (w : World) (h : 1048576 < l0 + l1 + l2) :
    Calls Try.prog 16 #[.slice a0 l0 c0, .slice a1 l1 c1, .slice a2 l2 c2] w fun e w' => e = .returned (.bool false) ∧ w' = w := by
  by_cases h0 : 1048576 < l0
  · go_enter Try.func16, Try.ntmps16
    go_wp2
    go_ret
    exact ⟨rfl, rfl⟩
  by_cases h1 : 1048576 < l1
  · go_enter Try.func16, Try.ntmps16
    go_wp2
    go_ret
    exact ⟨rfl, rfl⟩
  by_cases h2 : 1048576 < l0 + l1
  · go_enter Try.func16, Try.ntmps16
    go_wp2
    go_ret
    exact ⟨rfl, rfl⟩
  by_cases h3 : 1048576 < l2
  · go_enter Try.func16, Try.ntmps16
    go_wp2
    go_ret
    exact ⟨rfl, rfl⟩
  · go_enter Try.func16, Try.ntmps16
    go_wp2
    go_ret
    exact ⟨rfl, rfl⟩

theorem bytes22_yes (a0 a2 : Option Addr) (l0 c0 l2 c2 : Nat) (n : Int) (w : World) (h : l0 + l2 ≤ 1048576) :
    Calls Try.prog 22 #[.slice a0 l0 c0, .int .i64 n, .slice a2 l2 c2] w fun e w' => e = .returned (.bool true) ∧ w' = w := by
  go_enter Try.func22, Try.ntmps22
  go_wp2
  go_ret
  exact ⟨rfl, rfl⟩

theorem bytes22_no (a0 a2 : Option Addr) (l0 c0 l2 c2 : Nat) (n : Int) (w : World) (h : 1048576 < l0 + l2) :
    Calls Try.prog 22 #[.slice a0 l0 c0, .int .i64 n, .slice a2 l2 c2] w fun e w' => e = .returned (.bool false) ∧ w' = w := by
  by_cases h0 : 1048576 < l0
  · go_enter Try.func22, Try.ntmps22
    go_wp2
    go_ret
    exact ⟨rfl, rfl⟩
  by_cases h3 : 1048576 < l2
  · go_enter Try.func22, Try.ntmps22
    go_wp2
    go_ret
    exact ⟨rfl, rfl⟩
  · go_enter Try.func22, Try.ntmps22
    go_wp2
    go_ret
    exact ⟨rfl, rfl⟩

theorem bytes19_yes (a0 : Option Addr) (l0 c0 : Nat) (n : Int) (w : World) (h : l0 ≤ 1048576) :
    Calls Try.prog 19 #[.slice a0 l0 c0, .int .i64 n] w fun e w' => e = .returned (.bool true) ∧ w' = w := by
  go_enter Try.func19, Try.ntmps19
  go_wp2
  go_ret
  exact ⟨rfl, rfl⟩

theorem bytes19_no (a0 : Option Addr) (l0 c0 : Nat) (n : Int) (w : World) (h : 1048576 < l0) :
    Calls Try.prog 19 #[.slice a0 l0 c0, .int .i64 n] w fun e w' => e = .returned (.bool false) ∧ w' = w := by
  go_enter Try.func19, Try.ntmps19
  go_wp2
  go_ret
  exact ⟨rfl, rfl⟩

theorem bytes27_yes (a0 : Option Addr) (l0 c0 : Nat) (n : Int) (w : World) (h : l0 ≤ 1048576) :
    Calls Try.prog 27 #[.slice a0 l0 c0, .int .i64 n] w fun e w' => e = .returned (.bool true) ∧ w' = w := by
  go_enter Try.func27, Try.ntmps27
  go_wp2
  go_ret
  exact ⟨rfl, rfl⟩

theorem bytes27_no (a0 : Option Addr) (l0 c0 : Nat) (n : Int) (w : World) (h : 1048576 < l0) :
    Calls Try.prog 27 #[.slice a0 l0 c0, .int .i64 n] w fun e w' => e = .returned (.bool false) ∧ w' = w := by
  go_enter Try.func27, Try.ntmps27
  go_wp2
  go_ret
  exact ⟨rfl, rfl⟩

theorem ret_bool {a b : Bool} (h : a = b) : Ending.returned (.bool a) = .returned (.bool b) := by rw [h]

theorem plainByte_calls (c : Int) (w : World) :
    Calls Try.prog 17 #[.int .u8 c] w fun e w' => e = .returned (.bool (plainB c)) ∧ w' = w := by
  by_cases h0 : 32 ≤ c
  · by_cases h1 : c ≤ 126
    · by_cases h2 : c = 92
      · subst h2
        go_enter Try.func17, Try.ntmps17
        go_wp2
        go_ret
        exact ⟨rfl, rfl⟩
      · have h3 : (c != 92) = true := by simp [h2]
        go_enter Try.func17, Try.ntmps17
        go_wp2
        go_ret
        exact ⟨ret_bool (by simp [plainB, h0, h1, h2]), rfl⟩
    · go_enter Try.func17, Try.ntmps17
      go_wp2
      go_ret
      exact ⟨ret_bool (by simp [plainB]; omega), rfl⟩
  · go_enter Try.func17, Try.ntmps17
    go_wp2
    go_ret
    exact ⟨ret_bool (by simp [plainB]; omega), rfl⟩

theorem isDigit_calls (c : Int) (w : World) :
    Calls Try.prog 23 #[.int .u8 c] w fun e w' => e = .returned (.bool (digB c)) ∧ w' = w := by
  by_cases h0 : 48 ≤ c
  · by_cases h1 : c ≤ 57
    · go_enter Try.func23, Try.ntmps23
      go_wp2
      go_ret
      exact ⟨ret_bool (by simp [digB, h0, h1]), rfl⟩
    · go_enter Try.func23, Try.ntmps23
      go_wp2
      go_ret
      exact ⟨ret_bool (by simp [digB, h1]), rfl⟩
  · go_enter Try.func23, Try.ntmps23
    go_wp2
    go_ret
    exact ⟨ret_bool (by simp [digB]; omega), rfl⟩
end Go.Proofs.Qxb6602720a
