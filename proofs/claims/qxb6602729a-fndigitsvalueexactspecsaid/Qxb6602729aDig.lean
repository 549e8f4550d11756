/- The walks of ledger.digitsValue, its door, and the tests on one byte. -/
import Derived.Test.Qxb6602729aProg
import Derived.Test.Qxb6602729aPure
import Derived.WalkKit
import Derived.Outline
import Derived.WalkSpells
namespace Go.Proofs.Qxb6602729a
open Go.RowKit
open Go.Proofs.Qxb6602729a.Pd

theorem ret_bool {a b : Bool} (h : a = b) : Ending.returned (.bool a) = .returned (.bool b) := by rw [h]
theorem ret2 {a b : Int} {p q : Bool} (h1 : a = b) (h2 : p = q) : Ending.returned (.tuple #[.int .i64 a, .bool p]) = .returned (.tuple #[.int .i64 b, .bool q]) := by rw [h1, h2]

theorem isDigit_calls (c : Int) (w : World) :
    Calls Try.prog 29 #[.int .u8 c] w fun e w' => e = .returned (.bool (digB c)) ∧ w' = w := by
  by_cases h0 : 48 ≤ c
  · by_cases h1 : c ≤ 57
    · go_enter Try.func29, Try.ntmps29
      go_wp2
      go_ret
      exact ⟨ret_bool (by simp [digB, h0, h1]), rfl⟩
    · go_enter Try.func29, Try.ntmps29
      go_wp2
      go_ret
      exact ⟨ret_bool (by simp [digB, h1]), rfl⟩
  · go_enter Try.func29, Try.ntmps29
    go_wp2
    go_ret
    exact ⟨ret_bool (by simp [digB]; omega), rfl⟩

theorem zzIsDigit_calls (c : Int) (w : World) :
    Calls Try.prog 12 #[.int .u8 c] w fun e w' => e = .returned (.bool (digB c)) ∧ w' = w := by
  by_cases h0 : 48 ≤ c
  · by_cases h1 : c ≤ 57
    · go_enter Try.func12, Try.ntmps12
      go_wp2
      go_ret
      exact ⟨ret_bool (by simp [digB, h0, h1]), rfl⟩
    · go_enter Try.func12, Try.ntmps12
      go_wp2
      go_ret
      exact ⟨ret_bool (by simp [digB, h1]), rfl⟩
  · go_enter Try.func12, Try.ntmps12
    go_wp2
    go_ret
    exact ⟨ret_bool (by simp [digB]; omega), rfl⟩

set_option maxHeartbeats 1000000 in
theorem digits_calls (s : ByteArray) (w : World) (hs : s.size ≤ 2000000) :
    Calls Try.prog 26 #[.string s] w fun e w' => e = .returned (.tuple #[.int .i64 (dval (sb s)).1, .bool (dval (sb s)).2]) ∧ w' = w := by
  go_enter Try.func26, Try.ntmps26
  go_wp2
  go_loop [4, 5] (fun n i => ∃ k : Nat, k ≤ s.size ∧ i = .int .i64 k ∧ Hid (∀ c ∈ (sb s).take k, digB c = true) ∧ ∃ x : Int, n = .int .i64 x ∧ Hid (x = wrap64 (V ((sb s).take k)))) (fun _ i => s.size - (intOf i).toNat)
  case atStart => exact ⟨0, Nat.zero_le _, rfl, (fun c hc => by simp at hc), 0, rfl, (wrap_in 0 (by omega)).symm⟩
  case round =>
    obtain ⟨k, hk, rfl, HR, x, rfl, HX⟩ := hrel
    by_cases hkl : k < s.size
    case neg =>
      have HA : Hid ((sb s).take k = sb s) := sb_all s k (by omega)
      have HF : Hid (dval (sb s) = (x, true)) := by rw [HX.out, HA.out]; exact dval_yes _ (by rw [← HA.out]; exact HR.out)
      go_wp2
      go_ret2
      exact ⟨ret2 (by rw [HF.out]) (by rw [HF.out]), rfl⟩
    case pos =>
      obtain ⟨d, HD⟩ : ∃ d : Int, Hid ((s[k].toNat : Int) = d) := ⟨(s[k].toNat : Int), rfl⟩
      by_cases hd : digB d = true
      case neg =>
        have hd' : digB d = false := by simpa using hd
        have HF : Hid (dval (sb s) = (0, false)) := dval_no (sb s) d (by rw [← HD.out]; exact sb_mem s k hkl) hd'
        have hd2 : digB (s[k].toNat : Int) = false := by rw [HD.out]; exact hd'
        clear hd hd'
        go_wp2_with (go_at_call 29; refine (isDigit_calls _ _).mono ?_; rintro e w ⟨rfl, rfl⟩)
        go_ret2
        exact ⟨ret2 (by rw [HF.out]) (by rw [HF.out]), rfl⟩
      case pos =>
        have hd2 : digB (s[k].toNat : Int) = true := by rw [HD.out]; exact hd
        have hb : 48 ≤ d ∧ d ≤ 57 := by simpa [digB] using hd
        have hlo : 48 ≤ (s[k].toNat : Int) := by rw [HD.out]; omega
        have hhi : (s[k].toNat : Int) ≤ 57 := by rw [HD.out]; omega
        have HT : Hid ((sb s).take (k + 1) = (sb s).take k ++ [d]) := by rw [← HD.out]; exact sb_take s k hkl
        have HN : Hid (∀ c ∈ (sb s).take (k + 1), digB c = true) := by
          intro c hc
          rw [HT.out] at hc
          rcases List.mem_append.1 hc with h | h
          · exact HR.out c h
          · rw [List.mem_singleton.1 h]; exact hd
        clear hd hb
        go_wp2_with (go_at_call 29; refine (isDigit_calls _ _).mono ?_; rintro e w ⟨rfl, rfl⟩)
        go_round
        case rel => exact ⟨k + 1, by omega, by go_num, HN, _, rfl, by rw [HX.out, HT.out, HD.out]; exact step_left _ _⟩
        case measure => simp [intOf]; omega

theorem digits_is (s : ByteArray) (v : Int) (ok : Bool) (w : World) (hs : s.size ≤ 2000000) (h : dval (sb s) = (v, ok)) :
    Calls Try.prog 26 #[.string s] w fun e w' => e = .returned (.tuple #[.int .i64 v, .bool ok]) ∧ w' = w := by
  refine (digits_calls s w hs).mono ?_
  rintro e w' ⟨rfl, rfl⟩
  rw [h]; exact ⟨rfl, rfl⟩

theorem zzDigits_is (s : ByteArray) (v : Int) (ok : Bool) (w : World) (hs : s.size ≤ 2000000) (h : dval (sb s) = (v, ok)) :
    Calls Try.prog 11 #[.string s] w fun e w' => e = .returned (.tuple #[.int .i64 v, .bool ok]) ∧ w' = w := by
  have H : Hid (dval (sb s) = (v, ok)) := h
  clear h
  go_enter Try.func11, Try.ntmps11
  go_wp2_with (go_at_call 26; refine (digits_is s v ok _ hs H.out).mono ?_; rintro e w ⟨rfl, rfl⟩)
  go_ret2
  exact ⟨rfl, rfl⟩
end Go.Proofs.Qxb6602729a
