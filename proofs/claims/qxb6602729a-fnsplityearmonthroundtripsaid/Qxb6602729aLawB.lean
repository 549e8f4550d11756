/- The walk of FnSplitYearMonthRoundTrip. -/
import Derived.Test.Qxb6602729aSplit
import Derived.Laws.BytesArg
namespace Go.Proofs.Qxb6602729a
open Go.RowKit
open Go.Proofs.Qxb6602729a.Pd

theorem sb_nums (ds : List Int) (h : ∀ c ∈ ds, 0 ≤ c ∧ c ≤ 255) : sb (strOfNums ds) = ds := by
  unfold sb
  rw [strOfNums_data, List.map_map]
  conv => rhs; rw [← List.map_id ds]
  apply List.map_congr_left
  intro c hc
  have hd := h c hc
  have e : (UInt8.ofNat c.toNat).toNat = c.toNat := by rw [UInt8.toNat_ofNat']; omega
  show ((UInt8.ofNat c.toNat).toNat : Int) = c
  rw [e]; omega
theorem sb_extract (s : ByteArray) (i j : Nat) : sb (s.extract i j) = ((sb s).take j).drop i := by
  unfold sb
  rw [ByteArray.data_extract]
  simp [List.map_drop, List.map_take, List.drop_take]

theorem Try.len32 : Try.prog.arrayLen 32 = 7 := by kernel_rfl
theorem Try.elem32 : Try.prog.elem 32 = 5 := by kernel_rfl
theorem size5 (w : World) : (sizeOf 5).run Try.prog w = .ok 1 w := by
  simp [sizeOf]; rfl
/-- 'b[:]'. -/
theorem cut_all (T : Nat) (w : World) : (Instr.sliceAt 32 (.pointer (some ⟨T, 0, none⟩)) none none none).run Try.prog w = .ok (.slice (some ⟨T, 0, none⟩) 7 7) w := by
  rw [run_sliceAt_array_all (P := Try.prog) w 32 ⟨T, 0, none⟩ (by rw [Try.len32, Try.elem32]; exact Try.underlying32), Try.elem32, size5, Try.len32]
  simp only [Result.andThen, slicedAt]
  rw [if_neg (by omega), Addr.add_lit]
/-- 'string(b[:])'. -/
theorem text_all (w : World) (x0 x1 x2 x3 x4 x5 x6 : Int) :
    (convert 26 9 (.slice (some ⟨w.heap.size, 0, none⟩) 7 7)).run Try.prog (w.alloc (.cells #[.int .u8 x0, .int .u8 x1, .int .u8 x2, .int .u8 x3, .int .u8 x4, .int .u8 x5, .int .u8 x6] 32)) =
      .ok (.string (strOfNums [x0, x1, x2, x3, x4, x5, x6])) (w.alloc (.cells #[.int .u8 x0, .int .u8 x1, .int .u8 x2, .int .u8 x3, .int .u8 x4, .int .u8 x5, .int .u8 x6] 32)) := by
  refine run_convert_bytes_arg (P := Try.prog) _ 26 5 Try.underlying26 Try.underlying5 w.heap.size 0 7 7 [x0, x1, x2, x3, x4, x5, x6] rfl (fun i hi => ?_) 9 Try.underlying9
  rcases (show i = 0 ∨ i = 1 ∨ i = 2 ∨ i = 3 ∨ i = 4 ∨ i = 5 ∨ i = 6 from by omega) with rfl | rfl | rfl | rfl | rfl | rfl | rfl <;> simp

theorem V4 (y : Int) (_h0 : 0 ≤ y) (_h1 : y ≤ 9999) : V [48 + y / 1000, 48 + y / 100 % 10, 48 + y / 10 % 10, 48 + y % 10] = y := by
  simp [V]; omega
theorem V2 (m : Int) (_h0 : 0 ≤ m) (_h1 : m ≤ 99) : V [48 + m / 10, 48 + m % 10] = m := by
  simp [V]; omega

theorem law_split (y m : Int) (h0 : 0 ≤ y) (h1 : y ≤ 9999) (h2 : 0 ≤ m) (h3 : m ≤ 99) :
    ∃ S : ByteArray, S = strOfNums [48 + y / 1000, 48 + y / 100 % 10, 48 + y / 10 % 10, 48 + y % 10, 45, 48 + m / 10, 48 + m % 10] ∧ ∃ hs : S.size = 7, (S[4].toNat : Int) = 45 ∧ dval (sb (S.extract 0 4)) = (y, true) ∧ dval (sb (S.extract 5 7)) = (m, true) := by
  refine ⟨_, rfl, by rw [strOfNums_size]; rfl, ?_, ?_, ?_⟩
  · rfl
  · rw [sb_extract, sb_nums _ (by intro c hc; simp at hc; omega)]
    show dval [48 + y / 1000, 48 + y / 100 % 10, 48 + y / 10 % 10, 48 + y % 10] = _
    rw [dval_yes _ (by intro c hc; simp at hc; simp [digB]; omega), V4 y h0 h1, wrap_in y (by omega)]
  · rw [sb_extract, sb_nums _ (by intro c hc; simp at hc; omega)]
    show dval [48 + m / 10, 48 + m % 10] = _
    rw [dval_yes _ (by intro c hc; simp at hc; simp [digB]; omega), V2 m h2 h3, wrap_in m (by omega)]

set_option maxHeartbeats 2000000 in
theorem lawB_yes (y m : Int) (w : World) (h0 : 0 ≤ y) (h1 : y ≤ 9999) (h2 : 0 ≤ m) (h3 : m ≤ 99) :
    Calls Try.prog 7 #[.int .i64 y, .int .i64 m] w fun e w' => e = .returned (.bool true) ∧ Grown w w' := by
  obtain ⟨S, hS, hs, h4, hA, hB⟩ := law_split y m h0 h1 h2 h3
  have hcut := cut_all w.heap.size
  have hcv := text_all w (48 + y / 1000) (48 + y / 100 % 10) (48 + y / 10 % 10) (48 + y % 10) 45 (48 + m / 10) (48 + m % 10)
  rw [← hS] at hcv
  have HA : Hid (dval (sb (S.extract 0 4)) = (y, true)) := hA
  have HB : Hid (dval (sb (S.extract 5 7)) = (m, true)) := hB
  have H4 : Hid ((S[4].toNat : Int) = 45) := h4
  have HS : Hid (S.size = 7) := hs
  clear hA hB h4 hS
  go_enter Try.func7, Try.ntmps7
  go_wp2_with fail
  refine (zzSplit_is S y m _ HS.out H4.out HA.out HB.out).mono ?_
  rintro e w1 ⟨rfl, rfl⟩
  go_wp2
  go_ret
  exact ⟨rfl, (Grown.refl _).alloc _ _⟩

theorem lawB_walk (y m : Int) (w : World) :
    Calls Try.prog 7 #[.int .i64 y, .int .i64 m] w fun e w' => e = .returned (.bool true) ∧ Grown w w' := by
  by_cases h0 : y < 0
  · go_enter Try.func7, Try.ntmps7
    go_wp2
    go_ret
    exact ⟨rfl, Grown.refl _⟩
  by_cases h1 : 9999 < y
  · go_enter Try.func7, Try.ntmps7
    go_wp2
    go_ret
    exact ⟨rfl, Grown.refl _⟩
  by_cases h2 : m < 0
  · go_enter Try.func7, Try.ntmps7
    go_wp2
    go_ret
    exact ⟨rfl, Grown.refl _⟩
  by_cases h3 : 99 < m
  · go_enter Try.func7, Try.ntmps7
    go_wp2
    go_ret
    exact ⟨rfl, Grown.refl _⟩
  exact lawB_yes y m w (by omega) (by omega) (by omega) (by omega)
end Go.Proofs.Qxb6602729a
