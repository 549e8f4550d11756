/- The walks of jsonobj.plainString and its door. -/
import Derived.Test.Qxb6602720aProg
import Derived.Test.Qxb6602720aPure
import Derived.WalkKit
import Derived.Outline
import Derived.WalkSpells
namespace Go.Proofs.Qxb6602720a
open Go.RowKit
open Go.Proofs.Qxb6602720a.Pj

theorem ret2 {a b : Int} {p q : Bool} (h1 : a = b) (h2 : p = q) : Ending.returned (.tuple #[.int .i64 a, .bool p]) = .returned (.tuple #[.int .i64 b, .bool q]) := by rw [h1, h2]

set_option maxHeartbeats 1000000 in
theorem plainString_calls (b len cap : Nat) (zs : List Int) (i : Nat) (w : World) (hz : zs.length = len) (hm : len ≤ 2000000) (hi : i ≤ len)
    (hc : ∀ k, k < len → w.cell? ⟨b, k, none⟩ = some (.int .u8 (zs.getD k 0))) :
    Calls Try.prog 32 #[.slice (some ⟨b, 0, none⟩) len cap, .int .i64 i] w fun e w' => e = .returned (.tuple #[.int .i64 (ps zs i).1, .bool (ps zs i).2]) ∧ w' = w := by
  have HZ : Hid (zs.length = len) := hz
  clear hz
  have HC : Hid (∀ k, k < len → w.cell? ⟨b, k, none⟩ = some (.int .u8 (zs.getD k 0))) := hc
  clear hc
  by_cases hil : i = len
  · subst hil
    have hb : ((i : Int) == (i : Int)) = true := by simp
    go_enter Try.func32, Try.ntmps32
    go_wp2
    go_ret2
    exact ⟨ret2 (by rw [ps_end _ _ (by rw [HZ.out]; omega)]) (by rw [ps_end _ _ (by rw [HZ.out]; omega)]), rfl⟩
  · have hlt : i < len := by omega
    have hb : ((i : Int) == (len : Int)) = false := by simp; omega
    obtain ⟨c, hcell, HE⟩ : ∃ c, w.cell? ⟨b, i, none⟩ = some (.int .u8 c) ∧ Hid (zs.getD i 0 = c) := ⟨_, HC.out i hlt, rfl⟩
    by_cases hq : c = 34
    · subst hq
      have HP : Hid (ps zs i = psScan (zs.drop (i + 1)) (i + 1)) := ps_quote zs i (by rw [HZ.out]; omega) HE.out
      clear hil
      go_enter Try.func32, Try.ntmps32
      go_wp2
      go_loop [6] (fun t => ∃ k : Nat, k ≤ len ∧ t = .int .i64 k ∧ Hid (ps zs i = psScan (zs.drop k) k)) (fun t => len - (intOf t).toNat)
      case atStart => exact ⟨i + 1, by omega, by go_num, HP⟩
      case round =>
        obtain ⟨k, hk, rfl, HR⟩ := hrel
        by_cases hkl : k < len
        · obtain ⟨d, hcell2, HE2⟩ : ∃ c, w.cell? ⟨b, k, none⟩ = some (.int .u8 c) ∧ Hid (zs.getD k 0 = c) := ⟨_, HC.out k hkl, rfl⟩
          have hkz : k < zs.length := by rw [HZ.out]; omega
          by_cases hd : d = 34
          · subst hd
            have HF : Hid (ps zs i = ((k : Int) + 1, true)) := by rw [HR.out]; exact scan_quote zs k hkz HE2.out
            go_wp2
            go_ret2
            exact ⟨ret2 (by rw [HF.out]) (by rw [HF.out]), rfl⟩
          · have hd' : (d == 34) = false := by simp [hd]
            by_cases hbad : d < 32 ∨ 126 < d ∨ d = 92
            · have HF : Hid (ps zs i = (0, false)) := by rw [HR.out]; exact scan_bad zs k hkz d HE2.out hd hbad
              rcases (show d < 32 ∨ (32 ≤ d ∧ 126 < d) ∨ (32 ≤ d ∧ d ≤ 126 ∧ d = 92) from by omega) with h1 | ⟨h1, h2⟩ | ⟨h1, h2, h3⟩
              · go_wp2
                go_ret2
                exact ⟨ret2 (by rw [HF.out]) (by rw [HF.out]), rfl⟩
              · go_wp2
                go_ret2
                exact ⟨ret2 (by rw [HF.out]) (by rw [HF.out]), rfl⟩
              · subst h3
                go_wp2
                go_ret2
                exact ⟨ret2 (by rw [HF.out]) (by rw [HF.out]), rfl⟩
            · have HF : Hid (ps zs i = psScan (zs.drop (k + 1)) (k + 1)) := by rw [HR.out]; exact scan_on zs k hkz d HE2.out hd hbad
              have h1 : 32 ≤ d := by omega
              have h2 : d ≤ 126 := by omega
              have h3 : (d == 92) = false := by simp; omega
              clear hbad
              go_wp2
              go_round
              case rel => exact ⟨k + 1, by omega, by go_num, HF⟩
              case measure => simp [intOf]; omega
        · have HF : Hid (ps zs i = (0, false)) := by rw [HR.out]; exact scan_end zs k (by rw [HZ.out]; omega)
          go_wp2
          go_ret2
          exact ⟨ret2 (by rw [HF.out]) (by rw [HF.out]), rfl⟩
    · have HF : Hid (ps zs i = (0, false)) := ps_other zs i (by rw [HZ.out]; omega) c HE.out hq
      have hq' : (c == 34) = false := by simp [hq]
      have hq2 : (c != 34) = true := by simp [hq]
      go_enter Try.func32, Try.ntmps32
      go_wp2
      go_ret2
      exact ⟨ret2 (by rw [HF.out]) (by rw [HF.out]), rfl⟩

theorem zzPlainString_calls (b len cap : Nat) (zs : List Int) (i : Nat) (w : World) (hz : zs.length = len) (hm : len ≤ 2000000) (hi : i ≤ len)
    (hc : ∀ k, k < len → w.cell? ⟨b, k, none⟩ = some (.int .u8 (zs.getD k 0))) :
    Calls Try.prog 14 #[.slice (some ⟨b, 0, none⟩) len cap, .int .i64 i] w fun e w' => e = .returned (.tuple #[.int .i64 (ps zs i).1, .bool (ps zs i).2]) ∧ w' = w := by
  have HC : Hid (∀ k, k < len → w.cell? ⟨b, k, none⟩ = some (.int .u8 (zs.getD k 0))) := hc
  have HZ : Hid (zs.length = len) := hz
  clear hc hz
  go_enter Try.func14, Try.ntmps14
  go_wp2_with (go_at_call 32; refine (plainString_calls b len cap zs i _ HZ.out hm hi HC.out).mono ?_; rintro e w' ⟨rfl, rfl⟩)
  go_ret2
  exact ⟨rfl, rfl⟩
end Go.Proofs.Qxb6602720a
