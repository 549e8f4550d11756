/- The walk of FnCellOfShowsTheCharacterAndItsMark. -/
import Derived.Test.Qxb6603607aEnc
namespace Go.Proofs.Qxb6603607a
open Go.RowKit
open Go.Proofs.Qxb6603607a.Pb

theorem cellOf_int (C : Nat) (b : Bool) (r : Int) (h0 : 0 ≤ r) (hr : r ≤ 1114111) (w : World) (h : w.cell? ⟨C, 9, none⟩ = some (.bool b)) :
    Calls Try.prog 5 #[.pointer (some ⟨C, 0, none⟩), .int .i32 r] w fun e w' => e = .returned (.int .i32 (cellZ b r)) ∧ w' = w := by
  obtain ⟨n, rfl⟩ := Int.eq_ofNat_of_zero_le h0
  exact cellOf_calls C b n (by omega) w h
theorem not_int (b : Bool) (r : Int) (h0 : 0 ≤ r) (hr : r ≤ 1114111) : bits .andNot .i32 (cellZ b r) 1073741824 = r := by
  obtain ⟨n, rfl⟩ := Int.eq_ofNat_of_zero_le h0
  exact not_cell b n (by omega)
theorem and_int (b : Bool) (r : Int) (h0 : 0 ≤ r) (hr : r ≤ 1114111) : (bits .and .i32 (cellZ b r) 1073741824 != 0) = b := by
  obtain ⟨n, rfl⟩ := Int.eq_ofNat_of_zero_le h0
  exact and_cell b n (by omega)
theorem shown_le (r : Int) : (shownZ r).length ≤ 4 := by
  unfold shownZ
  split
  · simp
  · exact (Lib.encodeRuneZ_length r).2
theorem below_drewN {B : Nat} {a w : World} (h : Below B a w) (n : Nat) : Below B a (w.drewN n) := h.trans ⟨rfl, rfl, rfl, Nat.le_refl _, fun _ _ => rfl⟩

set_option maxHeartbeats 2000000 in
theorem law_yes (b : Bool) (r : Int) (h0 : 0 ≤ r) (hr : r ≤ 1114111) (w : World) :
    Calls Try.prog 3 #[.bool b, .int .i32 r] w fun e w' => e = .returned (.bool true) ∧ Below w.heap.size w w' := by
  obtain ⟨v, hcell, hand, hnot⟩ : ∃ v, Hid (v = cellZ b r) ∧ (bits .and .i32 v 1073741824 != 0) = b ∧ bits .andNot .i32 v 1073741824 = r := ⟨_, rfl, and_int b r h0 hr, not_int b r h0 hr⟩
  have hbb : (b == b) = true := by simp
  have hrr : (r == r) = true := by simp
  go_enter Try.func3, Try.ntmps3
  go_wp2_with fail
  refine (newCursor_calls b w).mono ?_
  rintro e w1 ⟨rfl, rfl⟩
  go_wp2_with fail
  refine (cellOf_int w.heap.size b r h0 hr _ (by simp)).mono ?_
  rintro e w1 ⟨rfl, rfl⟩
  rw [← hcell.out]
  go_wp2_with fail
  refine (zzAppendCell_calls v r h0 hr hnot _).mono ?_
  rintro e w2 ⟨g, cap, rfl, HG, hb2⟩
  have hbw : Below w.heap.size w w2 := ((Below.refl w.heap.size w).alloc (Nat.le_refl _) _).trans (hb2.mono (by simp))
  clear hb2
  obtain ⟨n, HN, hn4⟩ : ∃ n, Hid ((shownZ r).length = n) ∧ n ≤ 4 := ⟨_, rfl, shown_le r⟩
  rw [HN.out] at HG ⊢
  go_wp2_with fail
  refine (encode_calls r h0 hr w2).mono ?_
  rintro e w3 ⟨rfl, HE, hb3⟩
  rw [HN.out] at HE ⊢
  have HG3 : Hid (∀ k, k < n → w3.cell? ⟨g, k, none⟩ = some (.int .u8 ((shownZ r).getD k 0))) := by
    intro k hk; rw [hb3.cell (p := ⟨g, k, none⟩) HG.out.1]; exact HG.out.2 k hk
  have hbw3 : Below w.heap.size w w3 := hbw.trans (hb3.mono hbw.size)
  clear hb3 hbw
  go_wp2_with fail
  refine (equal_calls g w2.heap.size n cap n (shownZ r) w3 (by omega) HG3.out HE.out).mono ?_
  rintro e w4 ⟨rfl, q, rfl⟩
  go_wp2
  go_ret
  exact ⟨rfl, below_drewN hbw3 q⟩

theorem law_walk (b : Bool) (r : Int) (w : World) :
    Calls Try.prog 3 #[.bool b, .int .i32 r] w fun e w' => e = .returned (.bool true) ∧ Below w.heap.size w w' := by
  by_cases h0 : r < 0
  · go_enter Try.func3, Try.ntmps3
    go_wp2
    go_ret
    exact ⟨rfl, Below.refl _ _⟩
  by_cases h1 : 1114111 < r
  · go_enter Try.func3, Try.ntmps3
    go_wp2
    go_ret
    exact ⟨rfl, Below.refl _ _⟩
  exact law_yes b r (by omega) (by omega) w

end Go.Proofs.Qxb6603607a
