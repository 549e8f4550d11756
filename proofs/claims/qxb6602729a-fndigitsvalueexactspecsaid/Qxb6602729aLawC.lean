/- The walk of FnDigitsValueExactSpec. -/
import Derived.Test.Qxb6602729aDig
namespace Go.Proofs.Qxb6602729a
open Go.RowKit
open Go.Proofs.Qxb6602729a.Pd

theorem bytes10_yes (s : ByteArray) (w : World) (h : s.size ≤ 1048576) :
    Calls Try.prog 10 #[.string s] w fun e w' => e = .returned (.bool true) ∧ w' = w := by
  go_enter Try.func10, Try.ntmps10
  go_wp2
  go_ret
  exact ⟨rfl, rfl⟩
theorem bytes10_no (s : ByteArray) (w : World) (h : 1048576 < s.size) :
    Calls Try.prog 10 #[.string s] w fun e w' => e = .returned (.bool false) ∧ w' = w := by
  go_enter Try.func10, Try.ntmps10
  go_wp2
  go_ret
  exact ⟨rfl, rfl⟩

theorem all_step (s : ByteArray) (k : Nat) (h : k < s.size) : ((sb s).take (k + 1)).all digB = (((sb s).take k).all digB && digB (s[k].toNat : Int)) := by
  rw [sb_take s k h]; simp
theorem sb_drop (s : ByteArray) (i : Nat) (h : i < s.size) : (sb s).drop i = (s[i].toNat : Int) :: (sb s).drop (i + 1) := by
  rw [List.drop_eq_getElem_cons (by rw [sb_length]; exact h), sb_get s i h]

/-- The sum from the right: one digit more. -/
theorem step_right (s : ByteArray) (i : Nat) (h : i < s.size) (x q : Int) (hx : x = wrap64 (V ((sb s).drop (i + 1)))) (hq : q = wrap64 ((10 : Int) ^ (s.size - (i + 1)))) :
    wrap64 (x + wrap64 (((s[i].toNat : Int) - 48) * q)) = wrap64 (V ((sb s).drop i)) ∧ wrap64 (q * 10) = wrap64 ((10 : Int) ^ (s.size - i)) := by
  constructor
  · rw [sb_drop s i h, V_cons, hx, hq, wrap_add_l, wrap_mul_r, wrap_add_r]
    rw [show ((sb s).drop (i + 1)).length = s.size - (i + 1) from by rw [List.length_drop, sb_length]]
    rw [Int.add_comm]
  · have e : s.size - i = (s.size - (i + 1)) + 1 := by omega
    rw [hq, wrap_mul_l, e, Int.pow_succ]

theorem start_x (s : ByteArray) : Hid (0 = wrap64 (V ((sb s).drop s.size))) := by
  rw [List.drop_eq_nil_of_le (by rw [sb_length]; exact Nat.le_refl _), V_nil]; exact (wrap_in 0 (by omega)).symm
theorem start_q (s : ByteArray) : Hid (1 = wrap64 ((10 : Int) ^ (s.size - s.size))) := by
  rw [Nat.sub_self]; exact (wrap_in 1 (by omega)).symm

set_option maxHeartbeats 4000000 in
theorem lawC_walk (s : ByteArray) (w : World) :
    Calls Try.prog 3 #[.string s] w fun e w' => e = .returned (.bool true) ∧ Grown w w' := by
  by_cases hs : s.size ≤ 1048576
  case neg =>
    go_enter Try.func3, Try.ntmps3
    go_wp2_with (go_at_call 10; refine (bytes10_no _ _ (by omega)).mono ?_; rintro e w' ⟨rfl, rfl⟩)
    go_ret
    exact ⟨rfl, Grown.refl _⟩
  case pos =>
    have d0 : decide (1048576 < (s.size : Int)) = false := decide_eq_false (by omega)
    obtain ⟨v, ok, HV, HOK⟩ : ∃ v ok, Hid (dval (sb s) = (v, ok)) ∧ Hid ((sb s).all digB = ok ∧ (ok = true → v = wrap64 (V (sb s))) ∧ (ok = false → v = 0)) := by
      cases h : (sb s).all digB with
      | true => exact ⟨wrap64 (V (sb s)), true, dval_yes _ (List.all_eq_true.1 h), rfl, (fun _ => rfl), (fun h => by cases h)⟩
      | false => exact ⟨0, false, (by show dval (sb s) = _; unfold dval; rw [h]; rfl), rfl, (fun h => by cases h), (fun _ => rfl)⟩
    go_enter Try.func3, Try.ntmps3
    go_wp2_with (first
      | (go_at_call 10; refine (bytes10_yes _ _ hs).mono ?_; rintro e w ⟨rfl, rfl⟩)
      | (go_at_call 11; refine (zzDigits_is s v ok _ (by omega) HV.out).mono ?_; rintro e w ⟨rfl, rfl⟩))
    go_loop [5, 6] (fun b t => ∃ k : Nat, k ≤ s.size ∧ t = .int .i64 k ∧ ∃ r : Bool, b = .bool r ∧ Hid (r = ((sb s).take k).all digB)) (fun _ t => s.size - (intOf t).toNat)
    case atStart => exact ⟨0, Nat.zero_le _, rfl, true, rfl, rfl⟩
    case round =>
      obtain ⟨k, hk, rfl, r, rfl, HR⟩ := hrel
      by_cases hkl : k < s.size
      case pos =>
        by_cases hd : digB (s[k].toNat : Int) = true
        · have HN : Hid (r = ((sb s).take (k + 1)).all digB) := by rw [all_step s k hkl, hd, Bool.and_true]; exact HR.out
          go_wp2_with (go_at_call 12; refine (zzIsDigit_calls _ _).mono ?_; rintro e w ⟨rfl, rfl⟩)
          go_round
          case rel => exact ⟨k + 1, by omega, by go_num, r, rfl, HN⟩
          case measure => simp [intOf]; omega
        · have hd' : digB (s[k].toNat : Int) = false := by simpa using hd
          have HN : Hid (false = ((sb s).take (k + 1)).all digB) := by rw [all_step s k hkl, hd', Bool.and_false]; rfl
          clear hd
          go_wp2_with (go_at_call 12; refine (zzIsDigit_calls _ _).mono ?_; rintro e w ⟨rfl, rfl⟩)
          go_round
          case rel => exact ⟨k + 1, by omega, by go_num, false, rfl, HN⟩
          case measure => simp [intOf]; omega
      case neg =>
        have hr : r = ok := by rw [HR.out, sb_all s k (by omega)]; exact HOK.out.1
        subst hr
        clear HR
        cases r with
        | false =>
          have hv : v = 0 := HOK.out.2.2 rfl
          subst hv
          clear HOK HV
          go_wp2
          go_ret
          exact ⟨rfl, Grown.refl _⟩
        | true =>
          have HVV : Hid (v = wrap64 (V (sb s))) := HOK.out.2.1 rfl
          have HALL : Hid ((sb s).all digB = true) := HOK.out.1
          clear HOK HV
          go_wp2
          go_loop [7, 8, 9] (fun a p t => ∃ (j : Nat) (x q : Int), j ≤ s.size ∧ a = .int .i64 x ∧ p = .int .i64 q ∧ t = .int .i64 ((j : Int) - 1) ∧ Hid (x = wrap64 (V ((sb s).drop j))) ∧ Hid (q = wrap64 ((10 : Int) ^ (s.size - j)))) (fun _ _ t => (intOf t + 1).toNat)
          case atStart => exact ⟨s.size, 0, 1, Nat.le_refl _, rfl, rfl, rfl, start_x s, start_q s⟩
          case round =>
            obtain ⟨j, x, q, hj, rfl, rfl, rfl, HX, HQ⟩ := hrel
            by_cases hj0 : j = 0
            case pos =>
              subst hj0
              have hxv : x = v := by rw [HX.out, HVV.out]; rfl
              subst hxv
              clear HX HQ HVV
              go_wp2
              go_ret
              exact ⟨rfl, Grown.refl _⟩
            case neg =>
              obtain ⟨i, rfl⟩ : ∃ i, j = i + 1 := ⟨j - 1, by omega⟩
              have hi : i < s.size := by omega
              have hdd : digB (s[i].toNat : Int) = true := List.all_eq_true.1 HALL.out _ (sb_mem s i hi)
              have hb : 48 ≤ (s[i].toNat : Int) ∧ (s[i].toNat : Int) ≤ 57 := by simpa [digB] using hdd
              obtain ⟨hlo, hhi⟩ := hb
              have HST := step_right s i hi x q HX.out HQ.out
              have HS1 : Hid (wrap64 (x + wrap64 (((s[i].toNat : Int) - 48) * q)) = wrap64 (V ((sb s).drop i))) := HST.1
              have HS2 : Hid (wrap64 (q * 10) = wrap64 ((10 : Int) ^ (s.size - i))) := HST.2
              clear HST HX HQ hdd hj0
              go_wp2
              go_round
              case rel => exact ⟨i, _, _, by omega, rfl, rfl, by go_num, HS1, HS2⟩
              case measure => simp [intOf]
end Go.Proofs.Qxb6602729a
