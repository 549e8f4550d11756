/- The walk of jsonobj.wholeNumber and its door. -/
import Derived.Test.Qxb6602720aProg
import Derived.Test.Qxb6602720aNumP
import Derived.Test.Qxb6602720aStr
namespace Go.Proofs.Qxb6602720a
open Go.RowKit
open Go.Proofs.Qxb6602720a.Pj

set_option maxHeartbeats 4000000 in
theorem wholeNumber_calls (b len cap : Nat) (zs : List Int) (i : Nat) (w : World) (hz : zs.length = len) (hm : len ≤ 2000000) (hi : i < len)
    (hc : ∀ k, k < len → w.cell? ⟨b, k, none⟩ = some (.int .u8 (zs.getD k 0))) :
    Calls Try.prog 33 #[.slice (some ⟨b, 0, none⟩) len cap, .int .i64 i] w fun e w' => e = .returned (.tuple #[.int .i64 (wn zs i).1, .bool (wn zs i).2]) ∧ w' = w := by
  have HZ : Hid (zs.length = len) := hz
  have HC : Hid (∀ k, k < len → w.cell? ⟨b, k, none⟩ = some (.int .u8 (zs.getD k 0))) := hc
  clear hc hz
  obtain ⟨c, hcell, HE⟩ : ∃ c, w.cell? ⟨b, i, none⟩ = some (.int .u8 c) ∧ Hid (zs.getD i 0 = c) := ⟨_, HC.out i hi, rfl⟩
  by_cases h45 : c = 45
  · subst h45
    have HP : Hid (wn zs i = wnFrom zs (i + 1)) := wn_minus zs i HE.out
    go_enter Try.func33, Try.ntmps33
    go_wp2
    go_loop [1] (fun t => ∃ k : Nat, i + 1 ≤ k ∧ k ≤ len ∧ t = .int .i64 k ∧ Hid (k + dg zs k = (i + 1) + dg zs (i + 1))) (fun t => len - (intOf t).toNat)
    case atStart => exact ⟨i + 1, by omega, by omega, by go_num, rfl⟩
    case round =>
      obtain ⟨k, hsk, hk, rfl, HR⟩ := hrel
      by_cases hgo : k < len ∧ digB (zs.getD k 0) = true
      · obtain ⟨hkl, hdig⟩ := hgo
        obtain ⟨d, hcell2, HE2⟩ : ∃ c, w.cell? ⟨b, k, none⟩ = some (.int .u8 c) ∧ Hid (zs.getD k 0 = c) := ⟨_, HC.out k hkl, rfl⟩
        have hdd : digB d = true := by rw [← HE2.out]; exact hdig
        have hlo : 48 ≤ d := by simp [digB] at hdd; omega
        have hhi : d ≤ 57 := by simp [digB] at hdd; omega
        have HN : Hid (k + 1 + dg zs (k + 1) = (i + 1) + dg zs (i + 1)) := by
          have h1 := dg_step zs k (by rw [HZ.out]; exact hkl) d HE2.out hdd
          have h2 := HR.out
          show _ = _; omega
        clear hdd hdig
        go_wp2
        go_round
        case rel => exact ⟨k + 1, by omega, by omega, by go_num, HN⟩
        case measure => simp [intOf]; omega
      · have H0 : Hid (dg zs k = 0) := by
          by_cases hkl : k < len
          · exact dg_stop zs k (by rw [HZ.out]; exact hkl) _ rfl (by cases h : digB (zs.getD k 0) with
              | false => rfl
              | true => exact absurd ⟨hkl, h⟩ hgo)
          · exact dg_end zs k (by rw [HZ.out]; omega)
        have hexit : ¬ k < len ∨ (k < len ∧ ∃ d, w.cell? ⟨b, k, none⟩ = some (.int .u8 d) ∧ d < 48) ∨ (k < len ∧ ∃ d, w.cell? ⟨b, k, none⟩ = some (.int .u8 d) ∧ 48 ≤ d ∧ 57 < d) := by
          by_cases hkl : k < len
          · have hx : ¬ (48 ≤ zs.getD k 0 ∧ zs.getD k 0 ≤ 57) := fun h => hgo ⟨hkl, by simp only [digB]; exact decide_eq_true h⟩
            by_cases h48 : zs.getD k 0 < 48
            · exact .inr (.inl ⟨hkl, _, HC.out k hkl, h48⟩)
            · exact .inr (.inr ⟨hkl, _, HC.out k hkl, by omega, by omega⟩)
          · exact .inl hkl
        clear hgo
        have htail : (((k : Int) == (i : Int) + 1) = true ∧ Hid (wn zs i = (0, false))) ∨ (((k : Int) == (i : Int) + 1) = false ∧ i + 1 < len ∧ ∃ c0, w.cell? ⟨b, i + 1, none⟩ = some (.int .u8 c0) ∧ (c0 == 48) = false ∧ Hid (wn zs i = ((k : Int), true))) ∨ (((k : Int) == (i : Int) + 1) = false ∧ i + 1 < len ∧ ∃ c0, w.cell? ⟨b, i + 1, none⟩ = some (.int .u8 c0) ∧ (c0 == 48) = true ∧ decide (1 < (k : Int) - ((i : Int) + 1)) = true ∧ Hid (wn zs i = (0, false))) ∨ (((k : Int) == (i : Int) + 1) = false ∧ i + 1 < len ∧ ∃ c0, w.cell? ⟨b, i + 1, none⟩ = some (.int .u8 c0) ∧ (c0 == 48) = true ∧ decide (1 < (k : Int) - ((i : Int) + 1)) = false ∧ Hid (wn zs i = ((k : Int), true))) := by
          rw [HP.out]
          by_cases hks : k = i + 1
          · exact .inl ⟨beq_iff_eq.2 (by omega), wn_none zs _ k HR.out H0.out hks⟩
          · have hlt : i + 1 < len := by omega
            have hkb : ((k : Int) == (i : Int) + 1) = false := beq_eq_false_iff_ne.2 (by omega)
            by_cases h48 : zs.getD (i + 1) 0 = 48
            · by_cases h1 : i + 1 + 1 < k
              · exact .inr (.inr (.inl ⟨hkb, hlt, _, HC.out (i + 1) hlt, beq_iff_eq.2 h48, decide_eq_true (by omega), wn_zeros zs _ k HR.out H0.out h48 h1⟩))
              · exact .inr (.inr (.inr ⟨hkb, hlt, _, HC.out (i + 1) hlt, beq_iff_eq.2 h48, decide_eq_false (by omega), wn_zero zs _ k HR.out H0.out (by omega)⟩))
            · exact .inr (.inl ⟨hkb, hlt, _, HC.out (i + 1) hlt, beq_eq_false_iff_ne.2 h48, wn_digits zs _ k HR.out H0.out _ rfl h48 (by omega)⟩)
        clear H0 HR HP HC
        rcases htail with ⟨hks, HF⟩ | ⟨hks, hlt, c0, hc0, hn48, HF⟩ | ⟨hks, hlt, c0, hc0, hn48, hgt, HF⟩ | ⟨hks, hlt, c0, hc0, hn48, hgt, HF⟩
        all_goals
          rcases hexit with hend | ⟨hkl, d, hd, hlo⟩ | ⟨hkl, d, hd, hlo, hhi⟩
          all_goals
            go_wp2
            go_ret2
            exact ⟨ret2 (by rw [HF.out]) (by rw [HF.out]), rfl⟩
  · have h45' : (c == 45) = false := by simp [h45]
    have HP : Hid (wn zs i = wnFrom zs i) := wn_plain zs i c HE.out h45
    clear h45
    go_enter Try.func33, Try.ntmps33
    go_wp2
    go_loop [1] (fun t => ∃ k : Nat, i ≤ k ∧ k ≤ len ∧ t = .int .i64 k ∧ Hid (k + dg zs k = (i) + dg zs (i))) (fun t => len - (intOf t).toNat)
    case atStart => exact ⟨i, by omega, by omega, by go_num, rfl⟩
    case round =>
      obtain ⟨k, hsk, hk, rfl, HR⟩ := hrel
      by_cases hgo : k < len ∧ digB (zs.getD k 0) = true
      · obtain ⟨hkl, hdig⟩ := hgo
        obtain ⟨d, hcell2, HE2⟩ : ∃ c, w.cell? ⟨b, k, none⟩ = some (.int .u8 c) ∧ Hid (zs.getD k 0 = c) := ⟨_, HC.out k hkl, rfl⟩
        have hdd : digB d = true := by rw [← HE2.out]; exact hdig
        have hlo : 48 ≤ d := by simp [digB] at hdd; omega
        have hhi : d ≤ 57 := by simp [digB] at hdd; omega
        have HN : Hid (k + 1 + dg zs (k + 1) = (i) + dg zs (i)) := by
          have h1 := dg_step zs k (by rw [HZ.out]; exact hkl) d HE2.out hdd
          have h2 := HR.out
          show _ = _; omega
        clear hdd hdig
        go_wp2
        go_round
        case rel => exact ⟨k + 1, by omega, by omega, by go_num, HN⟩
        case measure => simp [intOf]; omega
      · have H0 : Hid (dg zs k = 0) := by
          by_cases hkl : k < len
          · exact dg_stop zs k (by rw [HZ.out]; exact hkl) _ rfl (by cases h : digB (zs.getD k 0) with
              | false => rfl
              | true => exact absurd ⟨hkl, h⟩ hgo)
          · exact dg_end zs k (by rw [HZ.out]; omega)
        have hexit : ¬ k < len ∨ (k < len ∧ ∃ d, w.cell? ⟨b, k, none⟩ = some (.int .u8 d) ∧ d < 48) ∨ (k < len ∧ ∃ d, w.cell? ⟨b, k, none⟩ = some (.int .u8 d) ∧ 48 ≤ d ∧ 57 < d) := by
          by_cases hkl : k < len
          · have hx : ¬ (48 ≤ zs.getD k 0 ∧ zs.getD k 0 ≤ 57) := fun h => hgo ⟨hkl, by simp only [digB]; exact decide_eq_true h⟩
            by_cases h48 : zs.getD k 0 < 48
            · exact .inr (.inl ⟨hkl, _, HC.out k hkl, h48⟩)
            · exact .inr (.inr ⟨hkl, _, HC.out k hkl, by omega, by omega⟩)
          · exact .inl hkl
        clear hgo
        have htail : (((k : Int) == (i : Int)) = true ∧ Hid (wn zs i = (0, false))) ∨ (((k : Int) == (i : Int)) = false ∧ i < len ∧ (c == 48) = false ∧ Hid (wn zs i = ((k : Int), true))) ∨ (((k : Int) == (i : Int)) = false ∧ i < len ∧ (c == 48) = true ∧ decide (1 < (k : Int) - ((i : Int))) = true ∧ Hid (wn zs i = (0, false))) ∨ (((k : Int) == (i : Int)) = false ∧ i < len ∧ (c == 48) = true ∧ decide (1 < (k : Int) - ((i : Int))) = false ∧ Hid (wn zs i = ((k : Int), true))) := by
          rw [HP.out]
          by_cases hks : k = i
          · exact .inl ⟨beq_iff_eq.2 (by omega), wn_none zs _ k HR.out H0.out hks⟩
          · have hlt : i < len := by omega
            have hkb : ((k : Int) == (i : Int)) = false := beq_eq_false_iff_ne.2 (by omega)
            by_cases h48 : c = 48
            · by_cases h1 : i + 1 < k
              · exact .inr (.inr (.inl ⟨hkb, hlt, beq_iff_eq.2 h48, decide_eq_true (by omega), wn_zeros zs _ k HR.out H0.out (HE.out.trans h48) h1⟩))
              · exact .inr (.inr (.inr ⟨hkb, hlt, beq_iff_eq.2 h48, decide_eq_false (by omega), wn_zero zs _ k HR.out H0.out (by omega)⟩))
            · exact .inr (.inl ⟨hkb, hlt, beq_eq_false_iff_ne.2 h48, wn_digits zs _ k HR.out H0.out c HE.out h48 (by omega)⟩)
        clear H0 HR HP HC
        rcases htail with ⟨hks, HF⟩ | ⟨hks, hlt, hn48, HF⟩ | ⟨hks, hlt, hn48, hgt, HF⟩ | ⟨hks, hlt, hn48, hgt, HF⟩
        all_goals
          rcases hexit with hend | ⟨hkl, d, hd, hlo⟩ | ⟨hkl, d, hd, hlo, hhi⟩
          all_goals
            go_wp2
            go_ret2
            exact ⟨ret2 (by rw [HF.out]) (by rw [HF.out]), rfl⟩

theorem zzWholeNumber_calls (b len cap : Nat) (zs : List Int) (i : Nat) (w : World) (hz : zs.length = len) (hm : len ≤ 2000000) (hi : i < len)
    (hc : ∀ k, k < len → w.cell? ⟨b, k, none⟩ = some (.int .u8 (zs.getD k 0))) :
    Calls Try.prog 20 #[.slice (some ⟨b, 0, none⟩) len cap, .int .i64 i] w fun e w' => e = .returned (.tuple #[.int .i64 (wn zs i).1, .bool (wn zs i).2]) ∧ w' = w := by
  have HC : Hid (∀ k, k < len → w.cell? ⟨b, k, none⟩ = some (.int .u8 (zs.getD k 0))) := hc
  have HZ : Hid (zs.length = len) := hz
  clear hc hz
  go_enter Try.func20, Try.ntmps20
  go_wp2_with (go_at_call 33; refine (wholeNumber_calls b len cap zs i _ HZ.out hm hi HC.out).mono ?_; rintro e w' ⟨rfl, rfl⟩)
  go_ret2
  exact ⟨rfl, rfl⟩

end Go.Proofs.Qxb6602720a
