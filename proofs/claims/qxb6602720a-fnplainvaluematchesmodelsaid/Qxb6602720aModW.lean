/- The walk of modelWholeJB1, the case table: it computes what wholeNumber computes. -/
import Derived.Test.Qxb6602720aNum
import Derived.Test.Qxb6602720aSmall
namespace Go.Proofs.Qxb6602720a
open Go.RowKit
open Go.Proofs.Qxb6602720a.Pj

set_option maxHeartbeats 8000000 in
theorem modelWhole_calls (b len cap : Nat) (zs : List Int) (i : Nat) (w : World) (hz : zs.length = len) (hm : len ≤ 2000000) (hi : i < len)
    (hc : ∀ k, k < len → w.cell? ⟨b, k, none⟩ = some (.int .u8 (zs.getD k 0))) :
    Calls Try.prog 21 #[.slice (some ⟨b, 0, none⟩) len cap, .int .i64 i] w fun e w' => e = .returned (.tuple #[.int .i64 (wn zs i).1, .bool (wn zs i).2]) ∧ w' = w := by
  have HZ : Hid (zs.length = len) := hz
  have HC : Hid (∀ k, k < len → w.cell? ⟨b, k, none⟩ = some (.int .u8 (zs.getD k 0))) := hc
  clear hc hz
  obtain ⟨c, hcell, HE⟩ : ∃ c, w.cell? ⟨b, i, none⟩ = some (.int .u8 c) ∧ Hid (zs.getD i 0 = c) := ⟨_, HC.out i hi, rfl⟩
  by_cases h45 : c = 45
  · subst h45
    have HP : Hid (wn zs i = wnFrom zs (i + 1)) := wn_minus zs i HE.out
    by_cases hsl : i + 1 < len
    case neg =>
      have HF : Hid (wn zs i = (0, false)) := HP.out.trans (m_end zs (i + 1) (by rw [HZ.out]; omega))
      have hse : ((i : Int) + 1 == (len : Int)) = true := beq_iff_eq.2 (by omega)
      clear HP HC
      go_enter Try.func21, Try.ntmps21
      go_wp2
      go_ret2
      exact ⟨ret2 (by rw [HF.out]) (by rw [HF.out]), rfl⟩
    case pos =>
      have hslz : i + 1 < zs.length := by rw [HZ.out]; exact hsl
      have hse : ((i : Int) + 1 == (len : Int)) = false := beq_eq_false_iff_ne.2 (by omega)
      obtain ⟨c1, hc1, HE1⟩ : ∃ c, w.cell? ⟨b, i + 1, none⟩ = some (.int .u8 c) ∧ Hid (zs.getD (i + 1) 0 = c) := ⟨_, HC.out (i + 1) hsl, rfl⟩
      by_cases hdig : digB c1 = true
      case neg =>
        have hdig' : digB c1 = false := by simpa using hdig
        have HF : Hid (wn zs i = (0, false)) := HP.out.trans (m_nodig zs (i + 1) hslz c1 HE1.out hdig')
        clear HP HC hdig
        go_enter Try.func21, Try.ntmps21
        go_wp2_with (go_at_call 23; refine (isDigit_calls _ _).mono ?_; rintro e w ⟨rfl, rfl⟩)
        go_ret2
        exact ⟨ret2 (by rw [HF.out]) (by rw [HF.out]), rfl⟩
      case pos =>
        by_cases h48 : c1 = 48
        case pos =>
          have h48' : (c1 == 48) = true := beq_iff_eq.2 h48
          have HE48 : Hid (zs.getD (i + 1) 0 = 48) := HE1.out.trans h48
          clear h48
          by_cases hs1 : i + 1 + 1 < len
          case neg =>
            have HF : Hid (wn zs i = (((i + 1 : Nat) : Int) + 1, true)) := HP.out.trans (m_0_end zs (i + 1) hslz HE48.out (by rw [HZ.out]; omega))
            clear HP HC
            go_enter Try.func21, Try.ntmps21
            go_wp2_with (go_at_call 23; refine (isDigit_calls _ _).mono ?_; rintro e w ⟨rfl, rfl⟩)
            go_ret2
            exact ⟨ret2 (by rw [HF.out]; first | rfl | omega) (by rw [HF.out]), rfl⟩
          case pos =>
            obtain ⟨d, hcd, HED⟩ : ∃ c, w.cell? ⟨b, i + 1 + 1, none⟩ = some (.int .u8 c) ∧ Hid (zs.getD (i + 1 + 1) 0 = c) := ⟨_, HC.out (i + 1 + 1) hs1, rfl⟩
            have hs1z : i + 1 + 1 < zs.length := by rw [HZ.out]; exact hs1
            by_cases hdd : digB d = true
            case pos =>
              have HF : Hid (wn zs i = (0, false)) := HP.out.trans (m_00 zs (i + 1) hs1z HE48.out d HED.out hdd)
              clear HP HC
              go_enter Try.func21, Try.ntmps21
              go_wp2_with (go_at_call 23; refine (isDigit_calls _ _).mono ?_; rintro e w ⟨rfl, rfl⟩)
              go_ret2
              exact ⟨ret2 (by rw [HF.out]) (by rw [HF.out]), rfl⟩
            case neg =>
              have hdd' : digB d = false := by simpa using hdd
              have HF : Hid (wn zs i = (((i + 1 : Nat) : Int) + 1, true)) := HP.out.trans (m_0 zs (i + 1) hs1z HE48.out d HED.out hdd')
              clear HP HC hdd
              go_enter Try.func21, Try.ntmps21
              go_wp2_with (go_at_call 23; refine (isDigit_calls _ _).mono ?_; rintro e w ⟨rfl, rfl⟩)
              go_ret2
              exact ⟨ret2 (by rw [HF.out]; first | rfl | omega) (by rw [HF.out]), rfl⟩
        case neg =>
          have h48' : (c1 == 48) = false := beq_eq_false_iff_ne.2 h48
          have HK : Hid (∀ e, e + dg zs e = (i + 1 + 1) + dg zs (i + 1 + 1) → dg zs e = 0 → wn zs i = ((e : Int), true)) := fun e he h0 => HP.out.trans (m_loop zs (i + 1) hslz c1 HE1.out hdig h48 e he h0)
          clear HP h48
          go_enter Try.func21, Try.ntmps21
          go_wp2_with (go_at_call 23; refine (isDigit_calls _ _).mono ?_; rintro e w ⟨rfl, rfl⟩)
          go_loop [7] (fun t => ∃ k : Nat, i + 1 + 1 ≤ k ∧ k ≤ len ∧ t = .int .i64 k ∧ Hid (k + dg zs k = (i + 1 + 1) + dg zs (i + 1 + 1))) (fun t => len - (intOf t).toNat)
          case atStart => exact ⟨i + 1 + 1, by omega, by omega, by go_num, rfl⟩
          case round =>
            obtain ⟨k, hsk, hk, rfl, HR⟩ := hrel
            by_cases hkl : k < len
            case neg =>
              have HF : Hid (wn zs i = ((k : Int), true)) := HK.out k HR.out (dg_end zs k (by rw [HZ.out]; omega))
              clear HK HC
              go_wp2_with (go_at_call 23; refine (isDigit_calls _ _).mono ?_; rintro e w ⟨rfl, rfl⟩)
              go_ret2
              exact ⟨ret2 (by rw [HF.out]) (by rw [HF.out]), rfl⟩
            case pos =>
              obtain ⟨d, hcd, HED⟩ : ∃ c, w.cell? ⟨b, k, none⟩ = some (.int .u8 c) ∧ Hid (zs.getD k 0 = c) := ⟨_, HC.out k hkl, rfl⟩
              by_cases hdd : digB d = true
              case pos =>
                have HN : Hid (k + 1 + dg zs (k + 1) = (i + 1 + 1) + dg zs (i + 1 + 1)) := by
                  have h1 := dg_step zs k (by rw [HZ.out]; exact hkl) d HED.out hdd
                  have h2 := HR.out
                  show _ = _; omega
                go_wp2_with (go_at_call 23; refine (isDigit_calls _ _).mono ?_; rintro e w ⟨rfl, rfl⟩)
                go_round
                case rel => exact ⟨k + 1, by omega, by omega, by go_num, HN⟩
                case measure => simp [intOf]; omega
              case neg =>
                have hdd' : digB d = false := by simpa using hdd
                have HF : Hid (wn zs i = ((k : Int), true)) := HK.out k HR.out (dg_stop zs k (by rw [HZ.out]; exact hkl) d HED.out hdd')
                clear hdd HK HC
                go_wp2_with (go_at_call 23; refine (isDigit_calls _ _).mono ?_; rintro e w ⟨rfl, rfl⟩)
                go_ret2
                exact ⟨ret2 (by rw [HF.out]) (by rw [HF.out]), rfl⟩
  · have h45' : (c == 45) = false := by simp [h45]
    have HP : Hid (wn zs i = wnFrom zs i) := wn_plain zs i c HE.out h45
    clear h45
    · skip
      have hslz : i < zs.length := by rw [HZ.out]; exact hi
      have hse : ((i : Int) == (len : Int)) = false := beq_eq_false_iff_ne.2 (by omega)
      by_cases hdig : digB c = true
      case neg =>
        have hdig' : digB c = false := by simpa using hdig
        have HF : Hid (wn zs i = (0, false)) := HP.out.trans (m_nodig zs (i) hslz c HE.out hdig')
        clear HP HC hdig
        go_enter Try.func21, Try.ntmps21
        go_wp2_with (go_at_call 23; refine (isDigit_calls _ _).mono ?_; rintro e w ⟨rfl, rfl⟩)
        go_ret2
        exact ⟨ret2 (by rw [HF.out]) (by rw [HF.out]), rfl⟩
      case pos =>
        by_cases h48 : c = 48
        case pos =>
          have h48' : (c == 48) = true := beq_iff_eq.2 h48
          have HE48 : Hid (zs.getD (i) 0 = 48) := HE.out.trans h48
          clear h48
          by_cases hs1 : i + 1 < len
          case neg =>
            have HF : Hid (wn zs i = (((i : Nat) : Int) + 1, true)) := HP.out.trans (m_0_end zs (i) hslz HE48.out (by rw [HZ.out]; omega))
            clear HP HC
            go_enter Try.func21, Try.ntmps21
            go_wp2_with (go_at_call 23; refine (isDigit_calls _ _).mono ?_; rintro e w ⟨rfl, rfl⟩)
            go_ret2
            exact ⟨ret2 (by rw [HF.out]) (by rw [HF.out]), rfl⟩
          case pos =>
            obtain ⟨d, hcd, HED⟩ : ∃ c, w.cell? ⟨b, i + 1, none⟩ = some (.int .u8 c) ∧ Hid (zs.getD (i + 1) 0 = c) := ⟨_, HC.out (i + 1) hs1, rfl⟩
            have hs1z : i + 1 < zs.length := by rw [HZ.out]; exact hs1
            by_cases hdd : digB d = true
            case pos =>
              have HF : Hid (wn zs i = (0, false)) := HP.out.trans (m_00 zs (i) hs1z HE48.out d HED.out hdd)
              clear HP HC
              go_enter Try.func21, Try.ntmps21
              go_wp2_with (go_at_call 23; refine (isDigit_calls _ _).mono ?_; rintro e w ⟨rfl, rfl⟩)
              go_ret2
              exact ⟨ret2 (by rw [HF.out]) (by rw [HF.out]), rfl⟩
            case neg =>
              have hdd' : digB d = false := by simpa using hdd
              have HF : Hid (wn zs i = (((i : Nat) : Int) + 1, true)) := HP.out.trans (m_0 zs (i) hs1z HE48.out d HED.out hdd')
              clear HP HC hdd
              go_enter Try.func21, Try.ntmps21
              go_wp2_with (go_at_call 23; refine (isDigit_calls _ _).mono ?_; rintro e w ⟨rfl, rfl⟩)
              go_ret2
              exact ⟨ret2 (by rw [HF.out]) (by rw [HF.out]), rfl⟩
        case neg =>
          have h48' : (c == 48) = false := beq_eq_false_iff_ne.2 h48
          have HK : Hid (∀ e, e + dg zs e = (i + 1) + dg zs (i + 1) → dg zs e = 0 → wn zs i = ((e : Int), true)) := fun e he h0 => HP.out.trans (m_loop zs (i) hslz c HE.out hdig h48 e he h0)
          clear HP h48
          go_enter Try.func21, Try.ntmps21
          go_wp2_with (go_at_call 23; refine (isDigit_calls _ _).mono ?_; rintro e w ⟨rfl, rfl⟩)
          go_loop [7] (fun t => ∃ k : Nat, i + 1 ≤ k ∧ k ≤ len ∧ t = .int .i64 k ∧ Hid (k + dg zs k = (i + 1) + dg zs (i + 1))) (fun t => len - (intOf t).toNat)
          case atStart => exact ⟨i + 1, by omega, by omega, by go_num, rfl⟩
          case round =>
            obtain ⟨k, hsk, hk, rfl, HR⟩ := hrel
            by_cases hkl : k < len
            case neg =>
              have HF : Hid (wn zs i = ((k : Int), true)) := HK.out k HR.out (dg_end zs k (by rw [HZ.out]; omega))
              clear HK HC
              go_wp2_with (go_at_call 23; refine (isDigit_calls _ _).mono ?_; rintro e w ⟨rfl, rfl⟩)
              go_ret2
              exact ⟨ret2 (by rw [HF.out]) (by rw [HF.out]), rfl⟩
            case pos =>
              obtain ⟨d, hcd, HED⟩ : ∃ c, w.cell? ⟨b, k, none⟩ = some (.int .u8 c) ∧ Hid (zs.getD k 0 = c) := ⟨_, HC.out k hkl, rfl⟩
              by_cases hdd : digB d = true
              case pos =>
                have HN : Hid (k + 1 + dg zs (k + 1) = (i + 1) + dg zs (i + 1)) := by
                  have h1 := dg_step zs k (by rw [HZ.out]; exact hkl) d HED.out hdd
                  have h2 := HR.out
                  show _ = _; omega
                go_wp2_with (go_at_call 23; refine (isDigit_calls _ _).mono ?_; rintro e w ⟨rfl, rfl⟩)
                go_round
                case rel => exact ⟨k + 1, by omega, by omega, by go_num, HN⟩
                case measure => simp [intOf]; omega
              case neg =>
                have hdd' : digB d = false := by simpa using hdd
                have HF : Hid (wn zs i = ((k : Int), true)) := HK.out k HR.out (dg_stop zs k (by rw [HZ.out]; exact hkl) d HED.out hdd')
                clear hdd HK HC
                go_wp2_with (go_at_call 23; refine (isDigit_calls _ _).mono ?_; rintro e w ⟨rfl, rfl⟩)
                go_ret2
                exact ⟨ret2 (by rw [HF.out]) (by rw [HF.out]), rfl⟩

end Go.Proofs.Qxb6602720a
