/- The walks of hasWordJB1 and modelStringJB1. -/
import Derived.Test.Qxb6602720aValP
import Derived.Test.Qxb6602720aStr
import Derived.Test.Qxb6602720aSmall
import Derived.Deep.QuietTactic
import Derived.BigQuiet
namespace Go.Proofs.Qxb6602720a
open Go.RowKit
open Go.Proofs.Qxb6602720a.Pj

/-- A string's bytes, as numbers. -/
def sb (s : ByteArray) : List Int := s.data.toList.map fun c => (c.toNat : Int)
theorem sb_length (s : ByteArray) : (sb s).length = s.size := by simp [sb]
theorem sb_at (s : ByteArray) (k : Nat) (h : k < s.size) : (sb s).getD k 0 = (s[k].toNat : Int) := by
  have h' : k < s.data.toList.length := by simpa using h
  simp [sb, List.getD_eq_getElem?_getD, h]; rfl

set_option maxHeartbeats 1000000 in
theorem hasWord_calls (b len cap : Nat) (zs : List Int) (i : Nat) (s : ByteArray) (w : World) (hz : zs.length = len) (hm : len ≤ 2000000) (hi : i ≤ len) (hs : s.size ≤ 1000)
    (hc : ∀ k, k < len → w.cell? ⟨b, k, none⟩ = some (.int .u8 (zs.getD k 0))) :
    Calls Try.prog 35 #[.slice (some ⟨b, 0, none⟩) len cap, .int .i64 i, .string s] w fun e w' => e = .returned (.bool (hasW zs i (sb s))) ∧ ∃ n, w' = w.drewN n := by
  have HZ : Hid (zs.length = len) := hz
  have HC : Hid (∀ k, k < len → w.cell? ⟨b, k, none⟩ = some (.int .u8 (zs.getD k 0))) := hc
  clear hc hz
  by_cases hl : i + s.size ≤ len
  case neg =>
    have HF : Hid (hasW zs i (sb s) = false) := hasW_short zs i (sb s) (by rw [sb_length, HZ.out]; exact hl)
    go_enter Try.func35, Try.ntmps35
    go_wp2
    go_ret
    exact ⟨ret_bool HF.out.symm, 0, rfl⟩
  case pos =>
    have hlt : decide ((len : Int) - (i : Int) < (s.size : Int)) = false := decide_eq_false (by omega)
    go_enter Try.func35, Try.ntmps35
    go_wp2
    go_loopw [7] (fun t wr => ∃ k : Nat, k ≤ s.size ∧ t = .int .i64 k ∧ Hid (∀ j, j < k → zs.getD (i + j) 0 = (sb s).getD j 0) ∧ ∃ n, wr = w.drewN n) (fun t _ => s.size - (intOf t).toNat)
    case atStart => exact ⟨0, Nat.zero_le _, rfl, (fun j hj => absurd hj (Nat.not_lt_zero _)), 0, rfl⟩
    case round =>
      obtain ⟨k, hk, rfl, HR, n, rfl⟩ := hrel
      by_cases hkl : k < s.size
      case neg =>
        have HF : Hid (hasW zs i (sb s) = true) := hasW_yes zs i (sb s) (by rw [sb_length, HZ.out]; exact hl) (fun t ht => HR.out t (by rw [sb_length] at ht; omega))
        go_wp2
        go_ret
        exact ⟨ret_bool HF.out.symm, n, rfl⟩
      case pos =>
        obtain ⟨d, hcell, HE⟩ : ∃ d, w.cell? ⟨b, i + k, none⟩ = some (.int .u8 d) ∧ Hid (zs.getD (i + k) 0 = d) := ⟨_, HC.out (i + k) (by omega), rfl⟩
        have hb1 : (i : Int) + (k : Int) < (len : Int) := by omega
        have hb2 : (k : Int) < (s.size : Int) := by omega
        by_cases heq : d = (s[k].toNat : Int)
        · have HN : Hid (∀ j, j < k + 1 → zs.getD (i + j) 0 = (sb s).getD j 0) := by
            intro j hj
            by_cases e : j = k
            · subst e; rw [HE.out, sb_at s j hkl]; exact heq
            · exact HR.out j (by omega)
          have hne : (d != (s[k].toNat : Int)) = false := by simp [heq]
          clear heq
          go_wp2
          go_quiet (fail)
          go_wp2
          go_roundw
          case rel => exact ⟨k + 1, by omega, by go_num, HN, _, rfl⟩
          case measure => simp [intOf]; omega
        · have HF : Hid (hasW zs i (sb s) = false) := hasW_no zs i (sb s) k (by rw [sb_length]; exact hkl) (by rw [HE.out, sb_at s k hkl]; exact heq)
          have hne : (d != (s[k].toNat : Int)) = true := by simp [heq]
          clear heq
          go_wp2
          go_quiet (fail)
          go_wp2
          go_ret
          exact ⟨ret_bool HF.out.symm, _, by rw [World.drewN_drewN]⟩

set_option maxHeartbeats 2000000 in
theorem modelString_calls (b len cap : Nat) (zs : List Int) (i : Nat) (w : World) (hz : zs.length = len) (hm : len ≤ 2000000) (hi : i < len)
    (hc : ∀ k, k < len → w.cell? ⟨b, k, none⟩ = some (.int .u8 (zs.getD k 0))) :
    Calls Try.prog 15 #[.slice (some ⟨b, 0, none⟩) len cap, .int .i64 i] w fun e w' => e = .returned (.tuple #[.int .i64 (ps zs i).1, .bool (ps zs i).2]) ∧ w' = w := by
  have HZ : Hid (zs.length = len) := hz
  have HC : Hid (∀ k, k < len → w.cell? ⟨b, k, none⟩ = some (.int .u8 (zs.getD k 0))) := hc
  clear hc hz
  have hb : ((i : Int) == (len : Int)) = false := beq_eq_false_iff_ne.2 (by omega)
  have hiz : i < zs.length := by rw [HZ.out]; exact hi
  obtain ⟨c, hcell, HE⟩ : ∃ c, w.cell? ⟨b, i, none⟩ = some (.int .u8 c) ∧ Hid (zs.getD i 0 = c) := ⟨_, HC.out i hi, rfl⟩
  by_cases hq : c = 34
  case neg =>
    have HF : Hid (ps zs i = (0, false)) := ps_other zs i hiz c HE.out hq
    have hq2 : (c != 34) = true := by simp [hq]
    clear hq
    go_enter Try.func15, Try.ntmps15
    go_wp2
    go_ret2
    exact ⟨ret2 (by rw [HF.out]) (by rw [HF.out]), rfl⟩
  case pos =>
    subst hq
    have HP : Hid (ps zs i = psScan (zs.drop (i + 1)) (i + 1)) := ps_quote zs i hiz HE.out
    go_enter Try.func15, Try.ntmps15
    go_wp2
    go_loop [6, 7] (fun q t => q = .int .i64 (-1) ∧ ∃ k : Nat, i + 1 ≤ k ∧ k ≤ len ∧ t = .int .i64 k ∧ Hid (∀ t, i + 1 ≤ t → t < k → zs.getD t 0 ≠ 34)) (fun _ t => len - (intOf t).toNat)
    case atStart => exact ⟨rfl, i + 1, by omega, by omega, by go_num, fun t h1 h2 => absurd h2 (by omega)⟩
    case round =>
      obtain ⟨rfl, k, hik, hk, rfl, HR⟩ := hrel
      by_cases hkl : k < len
      case neg =>
        have HF : Hid (ps zs i = (0, false)) := HP.out.trans (scan_noquote zs (i + 1) (fun t h1 h2 => HR.out t h1 (by rw [HZ.out] at h2; omega)))
        go_wp2
        go_ret2
        exact ⟨ret2 (by rw [HF.out]) (by rw [HF.out]), rfl⟩
      case pos =>
        obtain ⟨d, hcell2, HE2⟩ : ∃ c, w.cell? ⟨b, k, none⟩ = some (.int .u8 c) ∧ Hid (zs.getD k 0 = c) := ⟨_, HC.out k hkl, rfl⟩
        by_cases hd : d = 34
        case neg =>
          have hd' : (d == 34) = false := beq_eq_false_iff_ne.2 hd
          have HN : Hid (∀ t, i + 1 ≤ t → t < k + 1 → zs.getD t 0 ≠ 34) := by
            intro t h1 h2
            by_cases e : t = k
            · subst e; rw [HE2.out]; exact hd
            · exact HR.out t h1 (by omega)
          clear hd
          go_wp2
          go_round
          case rel => exact ⟨rfl, k + 1, by omega, by omega, by go_num, HN⟩
          case measure => simp [intOf]; omega
        case pos =>
          subst hd
          go_wp2
          go_loop [8] (fun t => ∃ j : Nat, i + 1 ≤ j ∧ j ≤ k ∧ t = .int .i64 j ∧ Hid (∀ t, i + 1 ≤ t → t < j → zs.getD t 0 ≠ 34 ∧ plainB (zs.getD t 0) = true)) (fun t => k - (intOf t).toNat)
          case atStart => exact ⟨i + 1, by omega, by omega, by go_num, fun t h1 h2 => absurd h2 (by omega)⟩
          case round =>
            obtain ⟨j, hij, hj, rfl, HJ⟩ := hrel
            by_cases hjk : j < k
            case neg =>
              have hjk' : j = k := by omega
              subst hjk'
              have HF : Hid (ps zs i = ((j : Int) + 1, true)) := HP.out.trans (scan_found zs (i + 1) j hij (by rw [HZ.out]; exact hkl) HE2.out HJ.out)
              go_wp2
              go_ret2
              exact ⟨ret2 (by rw [HF.out]) (by rw [HF.out]), rfl⟩
            case pos =>
              obtain ⟨x, hcell3, HE3⟩ : ∃ c, w.cell? ⟨b, j, none⟩ = some (.int .u8 c) ∧ Hid (zs.getD j 0 = c) := ⟨_, HC.out j (by omega), rfl⟩
              by_cases hp : plainB x = true
              case pos =>
                have HN : Hid (∀ t, i + 1 ≤ t → t < j + 1 → zs.getD t 0 ≠ 34 ∧ plainB (zs.getD t 0) = true) := by
                  intro t h1 h2
                  by_cases e : t = j
                  · subst e; exact ⟨HR.out t h1 hjk, by rw [HE3.out]; exact hp⟩
                  · exact HJ.out t h1 (by omega)
                go_wp2_with (go_at_call 17; refine (plainByte_calls _ _).mono ?_; rintro e w ⟨rfl, rfl⟩)
                go_round
                case rel => exact ⟨j + 1, by omega, by omega, by go_num, HN⟩
                case measure => simp [intOf]; omega
              case neg =>
                have hp' : plainB x = false := by simpa using hp
                have HF : Hid (ps zs i = (0, false)) := HP.out.trans (scan_spoilt zs (i + 1) j hij (by rw [HZ.out]; omega) (HR.out j hij hjk) (by rw [HE3.out]; exact hp') HJ.out)
                clear hp
                go_wp2_with (go_at_call 17; refine (plainByte_calls _ _).mono ?_; rintro e w ⟨rfl, rfl⟩)
                go_ret2
                exact ⟨ret2 (by rw [HF.out]) (by rw [HF.out]), rfl⟩
end Go.Proofs.Qxb6602720a
