/- The walk of FnDigitsValueLeadingZerosRoundTrip. -/
import Derived.Test.Qxb6602729aItoa
import Derived.Deep.RegionWith
import Derived.Laws.Concat
namespace Go.Proofs.Qxb6602729a
open Go.RowKit
open Go.Proofs.Qxb6602729a.Pd

/-- The row of Z bytes: its first k bytes are '0'. -/
def Zer (B : Nat) (w : World) (Z k : Nat) : Prop :=
  ∃ cur : List Value, w.heap[B]? = some (.cells cur.toArray 5 (0, 0)) ∧ cur.length = Z ∧ cur.take k = List.replicate k (.int .u8 48)

theorem Zer.cell {B : Nat} {w : World} {Z k : Nat} (h : Zer B w Z k) {j : Nat} (hj : j < Z) : ∃ v, w.cell? ⟨B, j, none⟩ = some v := by
  obtain ⟨cur, h1, h2, _⟩ := h
  exact ⟨cur[j]'(by omega), by rw [row_cell h1 j]; exact List.getElem?_eq_getElem _⟩
theorem Zer.frozen {B : Nat} {w : World} {Z k : Nat} (h : Zer B w Z k) (j : Nat) : w.frozen? ⟨B, j, none⟩ = false := by
  obtain ⟨cur, h1, _, _⟩ := h
  exact frozen_of_row w B j cur.toArray 5 h1
theorem Zer.store {B : Nat} {w : World} {Z k : Nat} (h : Zer B w Z k) (hk : k < Z) : Zer B (w.setCell ⟨B, k, none⟩ (.int .u8 48)) Z (k + 1) := by
  obtain ⟨cur, h1, h2, h3⟩ := h
  refine ⟨cur.set k (.int .u8 48), ?_, by simp [h2], ?_⟩
  · simp [World.setCell, Array.getElem?_modify, h1]
  · rw [List.take_succ_eq_append_getElem (by simp; omega), List.take_set_of_le (Nat.le_refl _), h3, List.getElem_set_self, List.replicate_succ']
theorem Zer.below {B : Nat} {w w' : World} {Z k : Nat} (h : Zer B w Z k) (hb : Below w.heap.size w w') : Zer B w' Z k := by
  obtain ⟨cur, h1, h2, h3⟩ := h
  exact ⟨cur, by rw [hb.block B (Array.getElem?_eq_some_iff.1 h1).1]; exact h1, h2, h3⟩
theorem Zer.lt {B : Nat} {w : World} {Z k : Nat} (h : Zer B w Z k) : B < w.heap.size := by
  obtain ⟨cur, h1, _⟩ := h
  exact (Array.getElem?_eq_some_iff.1 h1).1
theorem Zer.text {B : Nat} {w : World} {Z : Nat} (h : Zer B w Z Z) : (convert 26 9 (.slice (some ⟨B, 0, none⟩) Z Z)).run Try.prog w = .ok (.string (strOfNums (List.replicate Z 48))) w := by
  obtain ⟨cur, h1, h2, h3⟩ := h
  refine run_convert_bytes_arg (P := Try.prog) w 26 5 Try.underlying26 Try.underlying5 B 0 Z Z (List.replicate Z 48) (by simp) (fun i hi => ?_) 9 Try.underlying9
  rw [Nat.zero_add, row_cell h1]
  have h4 : cur.take Z = cur := List.take_of_length_le (by omega)
  rw [h4] at h3
  rw [h3]; simp [hi]

theorem own_zer {w : World} {base : Nat} {g n : Nat} {xs : List Value} (h : w.ownsRow base 5 1 (.slice (some ⟨g, 0, none⟩) n n) n xs) : Zer g w n 0 := by
  rcases h.2 with ⟨h', _⟩ | ⟨g', cap', cur, h', _, hg, _, _, hs, _⟩
  · cases h'
  · simp only [Value.slice.injEq, Option.some.injEq, Addr.mk.injEq, and_true, true_and] at h'
    obtain ⟨rfl, rfl⟩ := h'
    exact ⟨cur.toList, by simpa using hg, by simpa using hs, by simp⟩
theorem below_make {w w0 : World} (h : w.grownBy w0 none) : Below w.heap.size w w0 := (Below.refl _ _).grown h (Nat.le_refl _) (fun _ h => by cases h)

theorem sb_nums (ds : List Int) (h : ∀ c ∈ ds, digB c = true) : sb (strOfNums ds) = ds := by
  unfold sb
  rw [strOfNums_data, List.map_map]
  conv => rhs; rw [← List.map_id ds]
  apply List.map_congr_left
  intro c hc
  have hd : 48 ≤ c ∧ c ≤ 57 := by simpa [digB] using h c hc
  have e : (UInt8.ofNat c.toNat).toNat = c.toNat := by rw [UInt8.toNat_ofNat']; omega
  show ((UInt8.ofNat c.toNat).toNat : Int) = c
  rw [e]; omega
theorem sb_append (a b : ByteArray) : sb (a ++ b) = sb a ++ sb b := by
  unfold sb; simp [ByteArray.data_append]
theorem dig_zeros (Z : Nat) : ∀ c ∈ List.replicate Z (48 : Int), digB c = true := by
  intro c hc; rw [(List.mem_replicate.1 hc).2]; decide

/-- THE PLAIN LAW. -/
theorem law_zeros (Z : Nat) (ds : List Int) (n : Int) (h : ∀ c ∈ ds, digB c = true) (hv : V ds = n) (h1 : 0 ≤ n) (h2 : n ≤ 9223372036854775807) :
    dval (sb (strOfNums (List.replicate Z 48) ++ strOfNums ds)) = (n, true) := by
  rw [sb_append, sb_nums _ (dig_zeros Z), sb_nums ds h, dval_yes _ (fun c hc => by
    rcases List.mem_append.1 hc with hc | hc
    · exact dig_zeros Z c hc
    · exact h c hc), V_append, V_zeros, hv, Int.zero_mul, Int.zero_add, wrap_in n (by omega)]

set_option maxHeartbeats 4000000 in
theorem lawA_yes (n : Int) (Z : Nat) (w : World) (h1 : 0 ≤ n) (h2 : n ≤ 9223372036854775807) (hZ : Z ≤ 65536) :
    Calls Try.prog 4 #[.int .i64 n, .int .i64 Z] w fun e w' => e = .returned (.bool true) ∧ Below w.heap.size w w' := by
  obtain ⟨i0, hi, hz0, hz1, hz2⟩ := info_parts Try.info5
  have d0 : decide (n < 0) = false := decide_eq_false (by omega)
  have d1 : decide ((Z : Int) < 0) = false := decide_eq_false (by omega)
  have d2 : decide (65536 < (Z : Int)) = false := decide_eq_false (by omega)
  go_enter Try.func4, Try.ntmps4
  go_wp2_with (at_make; refine wpList_make_full _ rfl (.tmp 20) (.tmp 20) 26 rfl w.heap.size 5 i0 (.int .u8 0) 1 Try.underlying26 hi hz0 hz1 .i64 .i64 _ _ Z rfl rfl rfl rfl (by rw [hz2]; omega) (by unfold maxLen; omega) (Nat.le_refl _) ?_; intro w0 hown0 hgrow0; have hz := own_zer hown0; have hb0 := below_make hgrow0; clear hown0 hgrow0)
  go_loopw [6] (fun t wr => ∃ k : Nat, k ≤ Z ∧ t = .int .i64 k ∧ Zer w.heap.size wr Z k ∧ Below w.heap.size w wr) (fun t _ => Z - (intOf t).toNat)
  case atStart => exact ⟨0, Nat.zero_le _, rfl, hz, hb0⟩
  case round =>
    obtain ⟨k, hk, rfl, HZ, hb⟩ := hrel
    clear hz hb0
    by_cases hkz : k < Z
    · obtain ⟨x0, hcell⟩ := HZ.cell hkz
      have hfr := HZ.frozen k
      have HZ' := HZ.store hkz
      have hb' : Below w.heap.size w (wr.setCell ⟨w.heap.size, k, none⟩ (.int .u8 48)) := hb.setCell (Nat.le_refl _) _
      clear HZ
      go_wp2
      go_roundw
      case rel => exact ⟨k + 1, by omega, by go_num, HZ', hb'⟩
      case measure => simp [intOf]; omega
    · have hkz' : k = Z := by omega
      subst hkz'
      obtain ⟨S1, HS1, hS1⟩ : ∃ S1, Hid (S1 = strOfNums (List.replicate k 48)) ∧ S1.size ≤ 65536 := ⟨_, rfl, by rw [strOfNums_size]; simp; omega⟩
      have HZd : Zer w.heap.size wr.drew k k := HZ
      have hcv : (convert 26 9 (.slice (some ⟨w.heap.size, 0, none⟩) k k)).run Try.prog wr.drew = .ok (.string S1) wr.drew := by rw [HS1.out]; exact HZd.text
      go_wp2
      go_region_with (go_at_call 13; refine (itoa_calls n _ h1 h2).mono ?_; rintro e w2 ⟨ds, rfl, HD, HV, hlen, hb2⟩; have hcv2 : (convert 26 9 (.slice (some ⟨w.heap.size, 0, none⟩) k k)).run Try.prog w2 = .ok (.string S1) w2 := HS1.out ▸ (HZd.below hb2).text; have hs2 : (strOfNums ds).size ≤ 24 := (strOfNums_size ds) ▸ hlen)
      all_goals
        have hfin : Below w.heap.size w w2 := hb.drew.trans (hb2.mono hb.size)
        have HL : Hid (dval (sb (S1 ++ strOfNums ds)) = (n, true)) := by rw [HS1.out]; exact law_zeros k ds n HD.out HV.out h1 h2
        have hsz : (S1 ++ strOfNums ds).size ≤ 2000000 := by rw [ByteArray.size_append]; omega
        clear hcv2 hcv hb2 hb HZ HZd
        go_wp2_with fail
        refine (zzDigits_is (S1 ++ strOfNums ds) n true _ hsz HL.out).mono ?_
        rintro e w3 ⟨rfl, rfl⟩
        go_wp2
        go_ret
        exact ⟨rfl, hfin⟩

theorem lawA_walk (n z : Int) (w : World) (hn : (Lit.int .i64 n).wf = true) :
    Calls Try.prog 4 #[.int .i64 n, .int .i64 z] w fun e w' => e = .returned (.bool true) ∧ Below w.heap.size w w' := by
  have hb : -9223372036854775808 ≤ n ∧ n ≤ 9223372036854775807 := by simp [Lit.wf, IntKind.min, IntKind.max, IntKind.signed, IntKind.bits] at hn; omega
  clear hn
  obtain ⟨_, hb2⟩ := hb
  by_cases h0 : n < 0
  · go_enter Try.func4, Try.ntmps4
    go_wp2
    go_ret
    exact ⟨rfl, Below.refl _ _⟩
  by_cases h1 : z < 0
  · go_enter Try.func4, Try.ntmps4
    go_wp2
    go_ret
    exact ⟨rfl, Below.refl _ _⟩
  by_cases h2 : 65536 < z
  · go_enter Try.func4, Try.ntmps4
    go_wp2
    go_ret
    exact ⟨rfl, Below.refl _ _⟩
  obtain ⟨Z, rfl⟩ := Int.eq_ofNat_of_zero_le (by omega : 0 ≤ z)
  exact lawA_yes n Z w (by omega) hb2 (by omega)

end Go.Proofs.Qxb6602729a
