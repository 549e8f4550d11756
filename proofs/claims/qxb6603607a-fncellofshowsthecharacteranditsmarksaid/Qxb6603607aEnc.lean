/- The walks of tt1Encode and tt1Equal. -/
import Derived.Test.Qxb6603607aCell
import Derived.Deep.QuietTactic
import Derived.BigQuiet
namespace Go.Proofs.Qxb6603607a
open Go.RowKit
open Go.Proofs.Qxb6603607a.Pb

set_option maxHeartbeats 2000000 in
theorem encode_zero  (w : World) :
    Calls Try.prog 8 #[.int .i32 0] w fun e w' => e = .returned (.slice (some ⟨w.heap.size, 0, none⟩) 1 1) ∧ w' = w.alloc (.cells [.int .u8 (32)].toArray 5) := by
  go_enter Try.func8, Try.ntmps8
  go_wp2
  go_ret
  exact ⟨rfl, rfl⟩

set_option maxHeartbeats 2000000 in
theorem encode_bad (r : Int) (h0 : 55296 ≤ r) (h1 : r ≤ 57343) (w : World) :
    Calls Try.prog 8 #[.int .i32 r] w fun e w' => e = .returned (.slice (some ⟨w.heap.size, 0, none⟩) 3 3) ∧ w' = w.alloc (.cells [.int .u8 (239), .int .u8 (191), .int .u8 (189)].toArray 5) := by
  have e0 : (r == 0) = false := beq_eq_false_iff_ne.2 (by omega)
  go_enter Try.func8, Try.ntmps8
  go_wp2
  go_ret
  exact ⟨rfl, rfl⟩

set_option maxHeartbeats 2000000 in
theorem encode_one (r : Int) (h0 : 0 < r) (h1 : r < 128) (w : World) :
    Calls Try.prog 8 #[.int .i32 r] w fun e w' => e = .returned (.slice (some ⟨w.heap.size, 0, none⟩) 1 1) ∧ w' = w.alloc (.cells [.int .u8 (r)].toArray 5) := by
  have e0 : (r == 0) = false := beq_eq_false_iff_ne.2 (by omega)
  go_enter Try.func8, Try.ntmps8
  go_wp2
  go_ret
  exact ⟨rfl, rfl⟩

set_option maxHeartbeats 2000000 in
theorem encode_two (r : Int) (h0 : 128 ≤ r) (h1 : r < 2048) (w : World) :
    Calls Try.prog 8 #[.int .i32 r] w fun e w' => e = .returned (.slice (some ⟨w.heap.size, 0, none⟩) 2 2) ∧ w' = w.alloc (.cells [.int .u8 (192 + r / 64), .int .u8 (128 + r % 64)].toArray 5) := by
  have e0 : (r == 0) = false := beq_eq_false_iff_ne.2 (by omega)
  have q1 : bits .or .i32 192 (r / 64) = 192 + r / 64 := i32_or_join 6 192 _ (by omega) (by decide) (by omega) (by omega) (by omega) (by omega)
  have q2 : bits .and .i32 r 63 = r % 64 := i32_and63 r (by omega) (by omega)
  have q3 : bits .or .i32 128 (r % 64) = 128 + r % 64 := i32_or_join 6 128 _ (by omega) (by decide) (by omega) (by omega) (by omega) (by omega)
  go_enter Try.func8, Try.ntmps8
  go_wp2
  go_ret
  exact ⟨rfl, rfl⟩

set_option maxHeartbeats 2000000 in
theorem encode_lo (r : Int) (h0 : 2048 ≤ r) (h1 : r < 55296) (w : World) :
    Calls Try.prog 8 #[.int .i32 r] w fun e w' => e = .returned (.slice (some ⟨w.heap.size, 0, none⟩) 3 3) ∧ w' = w.alloc (.cells [.int .u8 (224 + r / 4096), .int .u8 (128 + r / 64 % 64), .int .u8 (128 + r % 64)].toArray 5) := by
  have e0 : (r == 0) = false := beq_eq_false_iff_ne.2 (by omega)
  have q1 : bits .or .i32 224 (r / 4096) = 224 + r / 4096 := i32_or_join 5 224 _ (by omega) (by decide) (by omega) (by omega) (by omega) (by omega)
  have q2 : bits .and .i32 (r / 64) 63 = r / 64 % 64 := i32_and63 _ (by omega) (by omega)
  have q3 : bits .or .i32 128 (r / 64 % 64) = 128 + r / 64 % 64 := i32_or_join 6 128 _ (by omega) (by decide) (by omega) (by omega) (by omega) (by omega)
  have q4 : bits .and .i32 r 63 = r % 64 := i32_and63 r (by omega) (by omega)
  have q5 : bits .or .i32 128 (r % 64) = 128 + r % 64 := i32_or_join 6 128 _ (by omega) (by decide) (by omega) (by omega) (by omega) (by omega)
  go_enter Try.func8, Try.ntmps8
  go_wp2
  go_ret
  exact ⟨rfl, rfl⟩

set_option maxHeartbeats 2000000 in
theorem encode_hi (r : Int) (h0 : 57343 < r) (h1 : r < 65536) (w : World) :
    Calls Try.prog 8 #[.int .i32 r] w fun e w' => e = .returned (.slice (some ⟨w.heap.size, 0, none⟩) 3 3) ∧ w' = w.alloc (.cells [.int .u8 (224 + r / 4096), .int .u8 (128 + r / 64 % 64), .int .u8 (128 + r % 64)].toArray 5) := by
  have e0 : (r == 0) = false := beq_eq_false_iff_ne.2 (by omega)
  have q1 : bits .or .i32 224 (r / 4096) = 224 + r / 4096 := i32_or_join 5 224 _ (by omega) (by decide) (by omega) (by omega) (by omega) (by omega)
  have q2 : bits .and .i32 (r / 64) 63 = r / 64 % 64 := i32_and63 _ (by omega) (by omega)
  have q3 : bits .or .i32 128 (r / 64 % 64) = 128 + r / 64 % 64 := i32_or_join 6 128 _ (by omega) (by decide) (by omega) (by omega) (by omega) (by omega)
  have q4 : bits .and .i32 r 63 = r % 64 := i32_and63 r (by omega) (by omega)
  have q5 : bits .or .i32 128 (r % 64) = 128 + r % 64 := i32_or_join 6 128 _ (by omega) (by decide) (by omega) (by omega) (by omega) (by omega)
  go_enter Try.func8, Try.ntmps8
  go_wp2
  go_ret
  exact ⟨rfl, rfl⟩

set_option maxHeartbeats 2000000 in
theorem encode_four (r : Int) (h0 : 65536 ≤ r) (h1 : r ≤ 1114111) (w : World) :
    Calls Try.prog 8 #[.int .i32 r] w fun e w' => e = .returned (.slice (some ⟨w.heap.size, 0, none⟩) 4 4) ∧ w' = w.alloc (.cells [.int .u8 (240 + r / 262144), .int .u8 (128 + r / 4096 % 64), .int .u8 (128 + r / 64 % 64), .int .u8 (128 + r % 64)].toArray 5) := by
  have e0 : (r == 0) = false := beq_eq_false_iff_ne.2 (by omega)
  have q1 : bits .or .i32 240 (r / 262144) = 240 + r / 262144 := i32_or_join 4 240 _ (by omega) (by decide) (by omega) (by omega) (by omega) (by omega)
  have q2 : bits .and .i32 (r / 4096) 63 = r / 4096 % 64 := i32_and63 _ (by omega) (by omega)
  have q3 : bits .or .i32 128 (r / 4096 % 64) = 128 + r / 4096 % 64 := i32_or_join 6 128 _ (by omega) (by decide) (by omega) (by omega) (by omega) (by omega)
  have q4 : bits .and .i32 (r / 64) 63 = r / 64 % 64 := i32_and63 _ (by omega) (by omega)
  have q5 : bits .or .i32 128 (r / 64 % 64) = 128 + r / 64 % 64 := i32_or_join 6 128 _ (by omega) (by decide) (by omega) (by omega) (by omega) (by omega)
  have q6 : bits .and .i32 r 63 = r % 64 := i32_and63 r (by omega) (by omega)
  have q7 : bits .or .i32 128 (r % 64) = 128 + r % 64 := i32_or_join 6 128 _ (by omega) (by decide) (by omega) (by omega) (by omega) (by omega)
  go_enter Try.func8, Try.ntmps8
  go_wp2
  go_ret
  exact ⟨rfl, rfl⟩

theorem enc_row {w : World} {n : Nat} {zs : List Int} {e : Ending} {w' : World} (hn : zs.length = n) (h : e = .returned (.slice (some ⟨w.heap.size, 0, none⟩) n n) ∧ w' = w.alloc (.cells (zs.map (Value.int .u8)).toArray 5)) :
    e = .returned (.slice (some ⟨w.heap.size, 0, none⟩) zs.length zs.length) ∧ Hid (∀ k, k < zs.length → w'.cell? ⟨w.heap.size, k, none⟩ = some (.int .u8 (zs.getD k 0))) ∧ Below w.heap.size w w' := by
  obtain ⟨rfl, rfl⟩ := h
  refine ⟨by rw [hn], fun k hk => ?_, (Below.refl _ _).alloc (Nat.le_refl _) _⟩
  have := new_row w (zs.map (Value.int .u8)) 5 k (.int .u8 (zs.getD k 0)) (by simp [List.getD_eq_getElem?_getD, hk])
  rw [Addr.add_lit, Nat.zero_add] at this
  exact this

theorem encode_calls (r : Int) (h0 : 0 ≤ r) (h1 : r ≤ 1114111) (w : World) :
    Calls Try.prog 8 #[.int .i32 r] w fun e w' => e = .returned (.slice (some ⟨w.heap.size, 0, none⟩) (shownZ r).length (shownZ r).length) ∧ Hid (∀ k, k < (shownZ r).length → w'.cell? ⟨w.heap.size, k, none⟩ = some (.int .u8 ((shownZ r).getD k 0))) ∧ Below w.heap.size w w' := by
  by_cases h : r = 0
  · subst h
    exact (encode_zero w).mono fun e w' hh => enc_row (zs := [32]) rfl hh
  rw [shown_other r h]
  rcases (show (0 < r ∧ r < 128) ∨ (128 ≤ r ∧ r < 2048) ∨ (2048 ≤ r ∧ r < 55296) ∨ (55296 ≤ r ∧ r ≤ 57343) ∨ (57343 < r ∧ r < 65536) ∨ (65536 ≤ r ∧ r ≤ 1114111) from by omega) with ⟨g0, g1⟩ | ⟨g0, g1⟩ | ⟨g0, g1⟩ | ⟨g0, g1⟩ | ⟨g0, g1⟩ | ⟨g0, g1⟩
  · rw [Lib.encodeRuneZ_one (by omega) (by omega)]
    exact (encode_one r g0 g1 w).mono fun e w' hh => enc_row (zs := [r]) rfl hh
  · rw [Lib.encodeRuneZ_two g0 (by omega)]
    exact (encode_two r g0 g1 w).mono fun e w' hh => enc_row (zs := [192 + r / 64, 128 + r % 64]) rfl hh
  · rw [Lib.encodeRuneZ_three (.inl ⟨g0, g1⟩)]
    exact (encode_lo r g0 g1 w).mono fun e w' hh => enc_row (zs := [224 + r / 4096, 128 + r / 64 % 64, 128 + r % 64]) rfl hh
  · rw [Lib.encodeRuneZ_bad (.inr (.inl ⟨g0, g1⟩))]
    exact (encode_bad r g0 g1 w).mono fun e w' hh => enc_row (zs := [239, 191, 189]) rfl hh
  · rw [Lib.encodeRuneZ_three (.inr ⟨g0, by omega⟩)]
    exact (encode_hi r g0 g1 w).mono fun e w' hh => enc_row (zs := [224 + r / 4096, 128 + r / 64 % 64, 128 + r % 64]) rfl hh
  · rw [Lib.encodeRuneZ_four g0 g1]
    exact (encode_four r g0 g1 w).mono fun e w' hh => enc_row (zs := [240 + r / 262144, 128 + r / 4096 % 64, 128 + r / 64 % 64, 128 + r % 64]) rfl hh

set_option maxHeartbeats 1000000 in
theorem equal_calls (A B n ca cb : Nat) (zs : List Int) (w : World) (hm : n ≤ 1000)
    (ha : ∀ k, k < n → w.cell? ⟨A, k, none⟩ = some (.int .u8 (zs.getD k 0))) (hb : ∀ k, k < n → w.cell? ⟨B, k, none⟩ = some (.int .u8 (zs.getD k 0))) :
    Calls Try.prog 7 #[.slice (some ⟨A, 0, none⟩) n ca, .slice (some ⟨B, 0, none⟩) n cb] w fun e w' => e = .returned (.bool true) ∧ ∃ q, w' = w.drewN q := by
  have HA : Hid (∀ k, k < n → w.cell? ⟨A, k, none⟩ = some (.int .u8 (zs.getD k 0))) := ha
  have HB : Hid (∀ k, k < n → w.cell? ⟨B, k, none⟩ = some (.int .u8 (zs.getD k 0))) := hb
  have hne : ((n : Int) != (n : Int)) = false := by simp
  clear ha hb
  go_enter Try.func7, Try.ntmps7
  go_wp2
  go_loopw [5] (fun t wr => ∃ k : Nat, k ≤ n ∧ t = .int .i64 k ∧ ∃ q, wr = w.drewN q) (fun t _ => n - (intOf t).toNat)
  case atStart => exact ⟨0, Nat.zero_le _, rfl, 0, rfl⟩
  case round =>
    obtain ⟨k, hk, rfl, q, rfl⟩ := hrel
    by_cases hkl : k < n
    case neg =>
      go_wp2
      go_ret
      exact ⟨rfl, q, rfl⟩
    case pos =>
      obtain ⟨d, hA, hB⟩ : ∃ d, w.cell? ⟨A, k, none⟩ = some (.int .u8 d) ∧ w.cell? ⟨B, k, none⟩ = some (.int .u8 d) := ⟨_, HA.out k hkl, HB.out k hkl⟩
      have hdd : (d != d) = false := by simp
      have hk2 : (k : Int) < (n : Int) := by omega
      go_wp2
      go_quiet (fail)
      go_wp2
      go_roundw
      case rel => exact ⟨k + 1, by omega, by go_num, _, rfl⟩
      case measure => simp [intOf]; omega

end Go.Proofs.Qxb6603607a
