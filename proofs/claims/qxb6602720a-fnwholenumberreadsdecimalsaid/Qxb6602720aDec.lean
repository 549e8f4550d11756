/- The walk of decimalJB1: what it writes is a minus sign or none, then digits, the first of them no zero unless it stands alone. (Which number it is the law does not need.) -/
import Derived.Test.Qxb6602720aCat
import Derived.Test.Qxb6602720aNumP
import Derived.Outline
namespace Go.Proofs.Qxb6602720a
open Go.RowKit
open Go.Proofs.Qxb6602720a.Pj

/-- The array of twenty bytes: from place k on it holds 'ds'. -/
def Tmp (T : Nat) (w : World) (k : Nat) (ds : List Int) : Prop :=
  ∃ cur : List Value, w.heap[T]? = some (.cells cur.toArray 37 (0, 0)) ∧ cur.length = 20 ∧ cur.drop k = ds.map (Value.int .u8)

theorem Tmp.cell {T : Nat} {w : World} {j : Nat} {ds : List Int} (h : Tmp T w j ds) {k : Nat} (hk : k < 20) : ∃ v, w.cell? ⟨T, k, none⟩ = some v := by
  obtain ⟨cur, h1, h2, _⟩ := h
  exact ⟨cur[k]'(by omega), by rw [row_cell h1 k]; exact List.getElem?_eq_getElem _⟩

theorem Tmp.frozen {T : Nat} {w : World} {j : Nat} {ds : List Int} (h : Tmp T w j ds) (k : Nat) : w.frozen? ⟨T, k, none⟩ = false := by
  obtain ⟨cur, h1, _, _⟩ := h
  exact frozen_of_row w T k cur.toArray 37 h1

theorem Tmp.store {T : Nat} {w : World} {k : Nat} {ds : List Int} (h : Tmp T w (k + 1) ds) (hk : k < 20) (x : Int) : Tmp T (w.setCell ⟨T, k, none⟩ (.int .u8 x)) k (x :: ds) := by
  obtain ⟨cur, h1, h2, h3⟩ := h
  refine ⟨cur.set k (.int .u8 x), ?_, by simp [h2], ?_⟩
  · simp [World.setCell, Array.getElem?_modify, h1]
  · rw [List.drop_eq_getElem_cons (by simp; omega)]
    rw [List.drop_set_of_lt (by omega), h3]; simp

theorem Tmp.below {T : Nat} {w w' : World} {k : Nat} {ds : List Int} (h : Tmp T w k ds) (hb : Below w.heap.size w w') : Tmp T w' k ds := by
  obtain ⟨cur, h1, h2, h3⟩ := h
  exact ⟨cur, by rw [hb.block T (Array.getElem?_eq_some_iff.1 h1).1]; exact h1, h2, h3⟩

theorem Tmp.length {T : Nat} {w : World} {k : Nat} {ds : List Int} (h : Tmp T w k ds) : ds.length = 20 - k := by
  obtain ⟨cur, _, h2, h3⟩ := h
  have := congrArg List.length h3
  simp at this; omega

theorem Tmp.cells {T : Nat} {w : World} {k : Nat} {ds : List Int} (h : Tmp T w k ds) : ∀ j u, (ds.map (Value.int .u8))[j]? = some u → w.cell? ((⟨T, k, none⟩ : Addr).add j) = some u := by
  intro j u hu
  obtain ⟨cur, h1, h2, h3⟩ := h
  rw [Addr.add_lit, row_cell h1, ← List.getElem?_drop, h3]; exact hu

theorem tmp_new (w : World) : Tmp w.heap.size (w.alloc (.cells #[.int .u8 0, .int .u8 0, .int .u8 0, .int .u8 0, .int .u8 0, .int .u8 0, .int .u8 0, .int .u8 0, .int .u8 0, .int .u8 0, .int .u8 0, .int .u8 0, .int .u8 0, .int .u8 0, .int .u8 0, .int .u8 0, .int .u8 0, .int .u8 0, .int .u8 0, .int .u8 0] 37)) 20 [] := by
  refine ⟨List.replicate 20 (.int .u8 0), ?_, by simp, by simp⟩
  show (w.heap.push _)[w.heap.size]? = _
  rw [Array.getElem?_push_size]; rfl

theorem start_lt {v : Int} (h : v < 10000000000000000000) : Hid (v < (10 : Int) ^ 19) := by
  have e : (10 : Int) ^ 19 = 10000000000000000000 := by decide
  show v < _
  rw [e]; exact h

theorem dec_pos {v : Int} {k : Nat} (h : 10 ≤ v) (hv : v < (10 : Int) ^ k) : ∃ j, k = j + 1 := by
  cases k with
  | zero => simp at hv; omega
  | succ j => exact ⟨j, rfl⟩

theorem dec_next {v : Int} {k : Nat} (hv : v < (10 : Int) ^ (k + 1)) : v / 10 < (10 : Int) ^ k := by
  rw [Int.pow_succ] at hv; omega

theorem dig_cons {x : Int} {ds : List Int} (h1 : 48 ≤ x) (h2 : x ≤ 57) (h : ∀ c ∈ ds, digB c = true) : ∀ c ∈ x :: ds, digB c = true := by
  intro c hc
  rcases List.mem_cons.1 hc with rfl | hc
  · simp [digB, h1, h2]
  · exact h c hc

theorem one_cell_at (w : World) (t : TypeId) (v : Value) : ∀ j u, [v][j]? = some u → (w.alloc (.cells #[v] t)).cell? ((⟨w.heap.size, 0, none⟩ : Addr).add j) = some u := by
  intro j u hj
  match j, hj with
  | 0, hj => simp at hj; subst hj; simp [Addr.add]
theorem one_cell_u8 (n : Int) : ∀ u ∈ [Value.int .u8 n], u.oneCell' = true := by intro u hu; simp at hu; subst hu; rfl

theorem Try.len37 : Try.prog.arrayLen 37 = 20 := by kernel_rfl
theorem Try.elem37 : Try.prog.elem 37 = 5 := by kernel_rfl
theorem size5 (w : World) : (sizeOf 5).run Try.prog w = .ok 1 w := by
  simp [sizeOf]; rfl
/-- 'tmp[k:]'. -/
theorem cut_tmp (T k : Nat) (hk : k ≤ 19) (w : World) : (Instr.sliceAt 37 (.pointer (some ⟨T, 0, none⟩)) (some (.int .i64 (k : Int))) none none).run Try.prog w = .ok (.slice (some ⟨T, k, none⟩) (20 - k) (20 - k)) w := by
  rw [run_sliceAt_array_l (P := Try.prog) w 37 ⟨T, 0, none⟩ (by rw [Try.len37, Try.elem37]; exact Try.underlying37) .i64 (k : Int) (by omega) (by rw [Try.len37]; omega), Try.elem37, size5, Try.len37]
  simp only [Result.andThen, slicedAt]
  rw [if_neg (by omega), Addr.add_lit]
  simp

theorem ret_slice {a : Option Addr} {n m c : Nat} (h : n = m) : Ending.returned (.slice a n c) = .returned (.slice a m c) := by rw [h]
theorem lead_ok {v : Int} {k : Nat} {ds : List Int} (hl : ((48 + v) :: ds).length = 20 - k) (h : k = 19 ∨ 1 ≤ v) : ds = [] ∨ 48 + v ≠ 48 := by
  rcases h with h | h
  · exact .inl (List.eq_nil_of_length_eq_zero (by simp at hl; omega))
  · exact .inr (by omega)

set_option maxHeartbeats 2000000 in
theorem decimal_neg (n : Int) (w : World) (h1 : -9223372036854775808 ≤ n) (h2 : n < 0) :
    Calls Try.prog 24 #[.int .i64 n] w fun e w' => ∃ D g, e = .returned (.slice (some ⟨g, 0, none⟩) D.length 21) ∧ IsDec D ∧ RowB w.heap.size w' (some ⟨g, 0, none⟩) D.length 21 D ∧ Below w.heap.size w w' := by
  obtain ⟨i0, hi, hz0, hz1, hz2⟩ := info_parts Try.info5
  go_enter Try.func24, Try.ntmps24
  go_wp2
  go_loopw [4, 6] (fun u t wr => ∃ (v : Int) (k : Nat) (ds : List Int), u = .int .u64 v ∧ t = .int .i64 ((k : Int) + 1) ∧ k ≤ 19 ∧ 0 ≤ v ∧ v < 10000000000000000000 ∧ Hid (v < (10 : Int) ^ k) ∧ (k = 19 ∨ 1 ≤ v) ∧
      Tmp w.heap.size wr (k + 1) ds ∧ Hid (∀ c ∈ ds, digB c = true) ∧ Below w.heap.size w wr) (fun _ t _ => (intOf t).toNat)
  case atStart => exact ⟨(-(n + 1) + 1), 19, [], rfl, rfl, by omega, by omega, by omega, start_lt (by omega), .inl rfl, tmp_new w, (fun c hc => by cases hc), (Below.refl _ _).alloc (Nat.le_refl _) _⟩
  case round =>
    obtain ⟨v, k, ds, rfl, rfl, hk, hv0, hv1, HV, hlead, HT, HD, hb⟩ := hrel
    obtain ⟨x0, hcell⟩ := HT.cell (k := k) (by omega)
    have hfr := HT.frozen k
    by_cases h10 : 10 ≤ v
    · obtain ⟨k, rfl⟩ : ∃ j, k = j + 1 := dec_pos h10 HV.out
      have HV' : Hid (v / 10 < (10 : Int) ^ k) := dec_next HV.out
      have HT' := HT.store (by omega) (48 + v % 10)
      have HD' : Hid (∀ c ∈ (48 + v % 10) :: ds, digB c = true) := dig_cons (by omega) (by omega) HD.out
      have hb' : Below w.heap.size w (wr.setCell ⟨w.heap.size, k + 1, none⟩ (.int .u8 (48 + v % 10))) := hb.setCell (Nat.le_refl _) _
      clear HT HV HD
      go_wp2
      go_roundw
      case rel => exact ⟨v / 10, k, _, rfl, by go_num, by omega, by omega, by omega, HV', .inr (by omega), HT', HD', hb'⟩
      case measure => simp [intOf]; omega
    · have h9 : v < 10 := by omega
      have HT' := HT.store (by omega) (48 + v)
      have HD' : Hid (∀ c ∈ (48 + v) :: ds, digB c = true) := dig_cons (by omega) (by omega) HD.out
      have hb' : Below w.heap.size w (wr.setCell ⟨w.heap.size, k, none⟩ (.int .u8 (48 + v))) := hb.setCell (Nat.le_refl _) _
      have HL : Hid ((((48 + v) :: ds).map (Value.int .u8)).length = (20 - k) * 1) := by have := HT'.length; simp [Hid] at this ⊢; omega
      have hcut := fun wx => cut_tmp w.heap.size k hk wx
      clear HT HD HV
      go_wp2_with (first
        | (at_make; obtain ⟨w1, hw1⟩ : ∃ w1, w1 = wr.setCell ⟨w.heap.size, k, none⟩ (.int .u8 (48 + v)) := ⟨_, rfl⟩; rw [← hw1]; rw [← hw1] at HT' hb'; clear hw1; refine wpList_make_own _ rfl (.const (.int .i64 0)) (.const (.int .i64 21)) 22 rfl w1.heap.size 5 i0 (.int .u8 0) 1 Try.underlying22 hi hz0 hz1 .i64 .i64 _ 21 rfl rfl rfl (by rw [hz2]; omega) (by unfold maxLen; omega) (Nat.le_refl _) ?_; intro w4 hown0 hgrow0; have hb4 := below_make hgrow0; have hb4' := hb'.trans (hb4.mono hb'.size); clear hgrow0)
        | (at_builtin; refine wpList_append_fits _ rfl (.tmp 39) (.tmp 40) 22 rfl w1.heap.size 5 i0 1 Try.underlying22 hi hz1 w1.heap.size 0 21 _ rfl (hown0.alloc _) ⟨w4.heap.size, 0, none⟩ 1 1 [.int .u8 45] rfl rfl (one_cell_at _ _ _) (one_cell_u8 _) (by omega) ?_; intro w5 hown1 hgrow1; simp only [Nat.zero_add, List.nil_append] at hown1; have hb5 := own_grownC (hb4.alloc hb4.size _) hgrow1; have hb5' := hb'.trans (hb5.mono hb'.size); clear hgrow1)
        | (at_builtin; refine wpList_append_fits _ rfl (.tmp 42) (.tmp 44) 22 rfl w1.heap.size 5 i0 1 Try.underlying22 hi hz1 w1.heap.size 1 21 _ rfl hown1 ⟨w.heap.size, k, none⟩ (20 - k) (20 - k) (((48 + v) :: ds).map (Value.int .u8)) rfl HL.out (HT'.below hb5).cells (ints_oneCell _ _) (by omega) ?_; intro w6 hown2 hgrow2; have hb6 := own_grownC hb5 hgrow2; have hb6' := hb'.trans (hb6.mono hb'.size); clear hgrow2))
      have hDl : (45 :: (48 + v) :: ds).length = 1 + (20 - k) := by have := HL.out; simp at this ⊢; omega
      have hrow : w6.ownsRow w1.heap.size 5 1 (.slice (some ⟨w1.heap.size, 0, none⟩) (45 :: (48 + v) :: ds).length 21) (45 :: (48 + v) :: ds).length ((45 :: (48 + v) :: ds).map (Value.int .u8)) := by
        rw [hDl]; simpa using hown2
      have R := (own_row hrow).mono hb'.size
      have hdec : IsDec (45 :: (48 + v) :: ds) := ⟨48 + v, ds, .inr rfl, HD'.out, lead_ok HT'.length hlead, by have := HT'.length; simp at this; omega⟩
      go_ret
      exact ⟨45 :: (48 + v) :: ds, w1.heap.size, ret_slice hDl.symm, hdec, R, hb6'⟩

set_option maxHeartbeats 2000000 in
theorem decimal_pos (n : Int) (w : World) (h1 : 0 ≤ n) (h2 : n < 9223372036854775808) :
    Calls Try.prog 24 #[.int .i64 n] w fun e w' => ∃ D g, e = .returned (.slice (some ⟨g, 0, none⟩) D.length 21) ∧ IsDec D ∧ RowB w.heap.size w' (some ⟨g, 0, none⟩) D.length 21 D ∧ Below w.heap.size w w' := by
  have hn0 : decide (n < 0) = false := decide_eq_false (by omega)
  obtain ⟨i0, hi, hz0, hz1, hz2⟩ := info_parts Try.info5
  go_enter Try.func24, Try.ntmps24
  go_wp2
  go_loopw [4, 6] (fun u t wr => ∃ (v : Int) (k : Nat) (ds : List Int), u = .int .u64 v ∧ t = .int .i64 ((k : Int) + 1) ∧ k ≤ 19 ∧ 0 ≤ v ∧ v < 10000000000000000000 ∧ Hid (v < (10 : Int) ^ k) ∧ (k = 19 ∨ 1 ≤ v) ∧
      Tmp w.heap.size wr (k + 1) ds ∧ Hid (∀ c ∈ ds, digB c = true) ∧ Below w.heap.size w wr) (fun _ t _ => (intOf t).toNat)
  case atStart => exact ⟨n, 19, [], rfl, rfl, by omega, by omega, by omega, start_lt (by omega), .inl rfl, tmp_new w, (fun c hc => by cases hc), (Below.refl _ _).alloc (Nat.le_refl _) _⟩
  case round =>
    obtain ⟨v, k, ds, rfl, rfl, hk, hv0, hv1, HV, hlead, HT, HD, hb⟩ := hrel
    obtain ⟨x0, hcell⟩ := HT.cell (k := k) (by omega)
    have hfr := HT.frozen k
    by_cases h10 : 10 ≤ v
    · obtain ⟨k, rfl⟩ : ∃ j, k = j + 1 := dec_pos h10 HV.out
      have HV' : Hid (v / 10 < (10 : Int) ^ k) := dec_next HV.out
      have HT' := HT.store (by omega) (48 + v % 10)
      have HD' : Hid (∀ c ∈ (48 + v % 10) :: ds, digB c = true) := dig_cons (by omega) (by omega) HD.out
      have hb' : Below w.heap.size w (wr.setCell ⟨w.heap.size, k + 1, none⟩ (.int .u8 (48 + v % 10))) := hb.setCell (Nat.le_refl _) _
      clear HT HV HD
      go_wp2
      go_roundw
      case rel => exact ⟨v / 10, k, _, rfl, by go_num, by omega, by omega, by omega, HV', .inr (by omega), HT', HD', hb'⟩
      case measure => simp [intOf]; omega
    · have h9 : v < 10 := by omega
      have HT' := HT.store (by omega) (48 + v)
      have HD' : Hid (∀ c ∈ (48 + v) :: ds, digB c = true) := dig_cons (by omega) (by omega) HD.out
      have hb' : Below w.heap.size w (wr.setCell ⟨w.heap.size, k, none⟩ (.int .u8 (48 + v))) := hb.setCell (Nat.le_refl _) _
      have HL : Hid ((((48 + v) :: ds).map (Value.int .u8)).length = (20 - k) * 1) := by have := HT'.length; simp [Hid] at this ⊢; omega
      have hcut := fun wx => cut_tmp w.heap.size k hk wx
      clear HT HD HV
      go_wp2_with (first
        | (at_make; obtain ⟨w1, hw1⟩ : ∃ w1, w1 = wr.setCell ⟨w.heap.size, k, none⟩ (.int .u8 (48 + v)) := ⟨_, rfl⟩; rw [← hw1]; rw [← hw1] at HT' hb'; clear hw1; refine wpList_make_own _ rfl (.const (.int .i64 0)) (.const (.int .i64 21)) 22 rfl w1.heap.size 5 i0 (.int .u8 0) 1 Try.underlying22 hi hz0 hz1 .i64 .i64 _ 21 rfl rfl rfl (by rw [hz2]; omega) (by unfold maxLen; omega) (Nat.le_refl _) ?_; intro w4 hown0 hgrow0; have hb4 := below_make hgrow0; have hb4' := hb'.trans (hb4.mono hb'.size); clear hgrow0)
        | (at_builtin; refine wpList_append_fits _ rfl (.tmp 42) (.tmp 44) 22 rfl w1.heap.size 5 i0 1 Try.underlying22 hi hz1 w1.heap.size 0 21 _ rfl hown0 ⟨w.heap.size, k, none⟩ (20 - k) (20 - k) (((48 + v) :: ds).map (Value.int .u8)) rfl HL.out (HT'.below hb4).cells (ints_oneCell _ _) (by omega) ?_; intro w6 hown2 hgrow2; have hb6 := own_grownC hb4 hgrow2; have hb6' := hb'.trans (hb6.mono hb'.size); clear hgrow2))
      have hDl : ((48 + v) :: ds).length = 20 - k := by have := HL.out; simp at this ⊢; omega
      have hrow : w6.ownsRow w1.heap.size 5 1 (.slice (some ⟨w1.heap.size, 0, none⟩) ((48 + v) :: ds).length 21) ((48 + v) :: ds).length (((48 + v) :: ds).map (Value.int .u8)) := by
        rw [hDl]; simpa using hown2
      have R := (own_row hrow).mono hb'.size
      have hdec : IsDec ((48 + v) :: ds) := ⟨48 + v, ds, .inl rfl, HD'.out, lead_ok HT'.length hlead, by have := HT'.length; simp at this; omega⟩
      go_ret
      exact ⟨(48 + v) :: ds, w1.heap.size, ret_slice hDl.symm, hdec, R, hb6'⟩

theorem decimal_calls (n : Int) (w : World) (hn : (Lit.int .i64 n).wf = true) :
    Calls Try.prog 24 #[.int .i64 n] w fun e w' => ∃ D g, e = .returned (.slice (some ⟨g, 0, none⟩) D.length 21) ∧ IsDec D ∧ RowB w.heap.size w' (some ⟨g, 0, none⟩) D.length 21 D ∧ Below w.heap.size w w' := by
  have hb : -9223372036854775808 ≤ n ∧ n < 9223372036854775808 := by
    simp [Lit.wf, IntKind.min, IntKind.max, IntKind.signed, IntKind.bits] at hn; omega
  by_cases h : n < 0
  · exact decimal_neg n w hb.1 h
  · exact decimal_pos n w (by omega) hb.2
end Go.Proofs.Qxb6602720a
