/- The walk of zzItoa: the decimal digits of a number that is not negative. -/
import Derived.Test.Qxb6602729aDig
import Derived.Laws.BytesArg
namespace Go.Proofs.Qxb6602729a
open Go.RowKit
open Go.Proofs.Qxb6602729a.Pd

theorem Try.info5 : (Try.prog.info? 5).map (fun i => (i.zero, i.size, i.bytes)) = some (some (.int .u8 0), 1, 1) := by kernel_rfl

theorem row_cell {w : World} {g : Nat} {cs : List Value} {e : TypeId} (h : w.heap[g]? = some (.cells cs.toArray e (0, 0))) (k : Nat) : w.cell? ⟨g, k, none⟩ = cs[k]? := by
  rw [cell_of_row w g k cs.toArray e (0, 0) h]; simp

/-- The array of twenty-four bytes: from place k on it holds 'ds'. -/
def Tmp (T : Nat) (w : World) (k : Nat) (ds : List Int) : Prop :=
  ∃ cur : List Value, w.heap[T]? = some (.cells cur.toArray 46 (0, 0)) ∧ cur.length = 24 ∧ cur.drop k = ds.map (Value.int .u8)

theorem Tmp.cell {T : Nat} {w : World} {j : Nat} {ds : List Int} (h : Tmp T w j ds) {k : Nat} (hk : k < 24) : ∃ v, w.cell? ⟨T, k, none⟩ = some v := by
  obtain ⟨cur, h1, h2, _⟩ := h
  exact ⟨cur[k]'(by omega), by rw [row_cell h1 k]; exact List.getElem?_eq_getElem _⟩

theorem Tmp.frozen {T : Nat} {w : World} {j : Nat} {ds : List Int} (h : Tmp T w j ds) (k : Nat) : w.frozen? ⟨T, k, none⟩ = false := by
  obtain ⟨cur, h1, _, _⟩ := h
  exact frozen_of_row w T k cur.toArray 46 h1

theorem Tmp.store {T : Nat} {w : World} {k : Nat} {ds : List Int} (h : Tmp T w (k + 1) ds) (hk : k < 24) (x : Int) : Tmp T (w.setCell ⟨T, k, none⟩ (.int .u8 x)) k (x :: ds) := by
  obtain ⟨cur, h1, h2, h3⟩ := h
  refine ⟨cur.set k (.int .u8 x), ?_, by simp [h2], ?_⟩
  · simp [World.setCell, Array.getElem?_modify, h1]
  · rw [List.drop_eq_getElem_cons (by simp; omega)]
    rw [List.drop_set_of_lt (by omega), h3]; simp

theorem Tmp.length {T : Nat} {w : World} {k : Nat} {ds : List Int} (h : Tmp T w k ds) : ds.length = 24 - k := by
  obtain ⟨cur, _, h2, h3⟩ := h
  have := congrArg List.length h3
  simp at this; omega

theorem Tmp.at_ {T : Nat} {w : World} {k : Nat} {ds : List Int} (h : Tmp T w k ds) : ∀ j, j < ds.length → w.cell? ⟨T, k + j, none⟩ = some (.int .u8 (ds.getD j 0)) := by
  intro j hj
  obtain ⟨cur, h1, h2, h3⟩ := h
  rw [row_cell h1, ← List.getElem?_drop, h3]
  simp [List.getD_eq_getElem?_getD, hj]

theorem tmp_new (w : World) : Tmp w.heap.size (w.alloc (.cells #[.int .u8 0, .int .u8 0, .int .u8 0, .int .u8 0, .int .u8 0, .int .u8 0, .int .u8 0, .int .u8 0, .int .u8 0, .int .u8 0, .int .u8 0, .int .u8 0, .int .u8 0, .int .u8 0, .int .u8 0, .int .u8 0, .int .u8 0, .int .u8 0, .int .u8 0, .int .u8 0, .int .u8 0, .int .u8 0, .int .u8 0, .int .u8 0] 46)) 24 [] := by
  refine ⟨List.replicate 24 (.int .u8 0), ?_, by simp, by simp⟩
  show (w.heap.push _)[w.heap.size]? = _
  rw [Array.getElem?_push_size]; rfl

theorem tmp_first (w : World) (x : Int) : Tmp w.heap.size (w.alloc (.cells #[.int .u8 0, .int .u8 0, .int .u8 0, .int .u8 0, .int .u8 0, .int .u8 0, .int .u8 0, .int .u8 0, .int .u8 0, .int .u8 0, .int .u8 0, .int .u8 0, .int .u8 0, .int .u8 0, .int .u8 0, .int .u8 0, .int .u8 0, .int .u8 0, .int .u8 0, .int .u8 0, .int .u8 0, .int .u8 0, .int .u8 0, .int .u8 x] 46)) 23 [x] := by
  refine ⟨List.replicate 23 (.int .u8 0) ++ [.int .u8 x], ?_, by simp, by simp⟩
  show (w.heap.push _)[w.heap.size]? = _
  rw [Array.getElem?_push_size]; rfl

theorem Try.len46 : Try.prog.arrayLen 46 = 24 := by kernel_rfl
theorem Try.elem46 : Try.prog.elem 46 = 5 := by kernel_rfl
theorem size5 (w : World) : (sizeOf 5).run Try.prog w = .ok 1 w := by
  simp [sizeOf]; rfl
/-- 'buf[k:]'. -/
theorem cut_buf (T k : Nat) (hk : k ≤ 23) (w : World) : (Instr.sliceAt 46 (.pointer (some ⟨T, 0, none⟩)) (some (.int .i64 (k : Int))) none none).run Try.prog w = .ok (.slice (some ⟨T, k, none⟩) (24 - k) (24 - k)) w := by
  rw [run_sliceAt_array_l (P := Try.prog) w 46 ⟨T, 0, none⟩ (by rw [Try.len46, Try.elem46]; exact Try.underlying46) .i64 (k : Int) (by omega) (by rw [Try.len46]; omega), Try.elem46, size5, Try.len46]
  simp only [Result.andThen, slicedAt]
  rw [if_neg (by omega), Addr.add_lit]
  simp

theorem text_buf {T : Nat} {w : World} {k : Nat} {ds : List Int} (h : Tmp T w k ds) :
    (convert 26 9 (.slice (some ⟨T, k, none⟩) (24 - k) (24 - k))).run Try.prog w = .ok (.string (strOfNums ds)) w :=
  run_convert_bytes_arg (P := Try.prog) w 26 5 Try.underlying26 Try.underlying5 T k (24 - k) (24 - k) ds h.length (fun i hi => h.at_ i (by rw [h.length]; exact hi)) 9 Try.underlying9

theorem dec_pos {v : Int} {m : Nat} (h : 1 ≤ v) (hv : v < (10 : Int) ^ (m - 4)) : ∃ j, m = j + 1 ∧ 4 ≤ j := by
  by_cases h4 : m ≤ 4
  · have e : m - 4 = 0 := by omega
    rw [e] at hv; simp at hv; omega
  · exact ⟨m - 1, by omega, by omega⟩
theorem dec_next {v : Int} {j : Nat} (hj : 4 ≤ j) (hv : v < (10 : Int) ^ (j + 1 - 4)) : v / 10 < (10 : Int) ^ (j - 4) := by
  have e : j + 1 - 4 = (j - 4) + 1 := by omega
  rw [e, Int.pow_succ] at hv; omega
/-- 'buf[m+1:]', and its text. -/
theorem end_facts {T : Nat} {w : World} {m : Nat} {ds : List Int} (h : Tmp T w (m + 1) ds) (hm : m ≤ 22) :
    ∃ L : Nat, (∀ wx, (Instr.sliceAt 46 (.pointer (some ⟨T, 0, none⟩)) (some (.int .i64 ((m : Int) + 1))) none none).run Try.prog wx = .ok (.slice (some ⟨T, m + 1, none⟩) L L) wx) ∧
      (convert 26 9 (.slice (some ⟨T, m + 1, none⟩) L L)).run Try.prog w = .ok (.string (strOfNums ds)) w := by
  refine ⟨24 - (m + 1), fun wx => ?_, text_buf h⟩
  have := cut_buf T (m + 1) (by omega) wx
  rw [show (((m + 1 : Nat)) : Int) = (m : Int) + 1 from by omega] at this
  exact this
theorem start_lt {v : Int} (h : v ≤ 922337203685477580) : Hid (v < (10 : Int) ^ 18) := by
  have e : (10 : Int) ^ 18 = 1000000000000000000 := by decide
  show v < _
  rw [e]; omega
theorem dig_cons {x : Int} {ds : List Int} (h1 : 48 ≤ x) (h2 : x ≤ 57) (h : ∀ c ∈ ds, digB c = true) : ∀ c ∈ x :: ds, digB c = true := by
  intro c hc
  rcases List.mem_cons.1 hc with rfl | hc
  · simp [digB, h1, h2]
  · exact h c hc
/-- One more digit at the head. -/
theorem value_next {v n : Int} {ds : List Int} (h : V ds + v * (10 : Int) ^ ds.length = n) : V ((48 + v % 10) :: ds) + v / 10 * (10 : Int) ^ ((48 + v % 10) :: ds).length = n := by
  rw [V_cons, List.length_cons, Int.pow_succ, ← h]
  generalize (10 : Int) ^ ds.length = p
  have e1 : (48 + v % 10 - 48) * p = (v % 10) * p := by congr 1; omega
  have e2 : v / 10 * (p * 10) = (v / 10 * 10) * p := by rw [Int.mul_assoc, Int.mul_comm p 10]
  have e3 : v * p = (v % 10) * p + (v / 10 * 10) * p := by rw [← Int.add_mul]; congr 1; omega
  rw [e1, e2, e3]; omega

theorem value_first (n : Int) : Hid (V [48 + n % 10] + n / 10 * (10 : Int) ^ [48 + n % 10].length = n) := by
  show V [48 + n % 10] + n / 10 * (10 : Int) ^ 1 = n
  have e : V [48 + n % 10] = n % 10 := by simp [V]; omega
  rw [e]; omega

set_option maxHeartbeats 2000000 in
theorem itoa_calls (n : Int) (w : World) (h1 : 0 ≤ n) (h2 : n ≤ 9223372036854775807) :
    Calls Try.prog 13 #[.int .i64 n] w fun e w' => ∃ ds, e = .returned (.string (strOfNums ds)) ∧ Hid (∀ c ∈ ds, digB c = true) ∧ Hid (V ds = n) ∧ ds.length ≤ 24 ∧ Below w.heap.size w w' := by
  go_enter Try.func13, Try.ntmps13
  go_wp2
  go_loopw [0, 4] (fun t i wr => ∃ (v : Int) (m : Nat) (ds : List Int), t = .int .i64 v ∧ i = .int .i64 ((m : Int) + 1) ∧ m ≤ 22 ∧ 0 ≤ v ∧ v ≤ 922337203685477580 ∧ Hid (v < (10 : Int) ^ (m - 4)) ∧
      Tmp w.heap.size wr (m + 1) ds ∧ Hid (∀ c ∈ ds, digB c = true) ∧ Hid (V ds + v * (10 : Int) ^ ds.length = n) ∧ Below w.heap.size w wr) (fun _ i _ => (intOf i).toNat)
  case atStart => exact ⟨n / 10, 22, [48 + n % 10], rfl, rfl, by omega, by omega, by omega, start_lt (by omega), tmp_first w _, dig_cons (by omega) (by omega) (fun c hc => by cases hc), value_first n, (Below.refl _ _).alloc (Nat.le_refl _) _⟩
  case round =>
    obtain ⟨v, m, ds, rfl, rfl, hm, hv0, hv1, HV, HT, HD, HS, hb⟩ := hrel
    by_cases hpos : 1 ≤ v
    · obtain ⟨x0, hcell⟩ := HT.cell (k := m) (by omega)
      have hfr := HT.frozen m
      obtain ⟨m, rfl, hm4⟩ := dec_pos hpos HV.out
      have HV' : Hid (v / 10 < (10 : Int) ^ (m - 4)) := dec_next hm4 HV.out
      have HT' := HT.store (by omega) (48 + v % 10)
      have HD' : Hid (∀ c ∈ (48 + v % 10) :: ds, digB c = true) := dig_cons (by omega) (by omega) HD.out
      have HS' : Hid (V ((48 + v % 10) :: ds) + v / 10 * (10 : Int) ^ ((48 + v % 10) :: ds).length = n) := value_next HS.out
      have hb' : Below w.heap.size w (wr.setCell ⟨w.heap.size, m + 1, none⟩ (.int .u8 (48 + v % 10))) := hb.setCell (Nat.le_refl _) _
      clear HT HV HD HS
      go_wp2
      go_roundw
      case rel => exact ⟨v / 10, m, _, rfl, by go_num, by omega, by omega, by omega, HV', HT', HD', HS', hb'⟩
      case measure => simp [intOf]; omega
    · have hv : v = 0 := by omega
      subst hv
      obtain ⟨L, hcut, hcv⟩ := end_facts HT hm
      have HV2 : Hid (V ds = n) := by have := HS.out; rw [Int.zero_mul, Int.add_zero] at this; exact this
      have hlen : ds.length ≤ 24 := by rw [HT.length]; omega
      clear HT HV HS
      go_wp2
      go_ret
      exact ⟨ds, rfl, HD, HV2, hlen, hb⟩
end Go.Proofs.Qxb6602729a
