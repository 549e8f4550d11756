/- The walks of ZZnewCursor, cellOf, appendCell and their doors. -/
import Derived.Test.Qxb6603607aScr
import Derived.Test.Qxb6603607aRune
import Derived.Test.Qxb6603607aBits
namespace Go.Proofs.Qxb6603607a
open Go.RowKit
open Go.Proofs.Qxb6603607a.Pb

/-- What a cell that holds r shows. -/
def shownZ (r : Int) : List Int := if r = 0 then [32] else Lib.encodeRuneZ r
theorem shown_zero : shownZ 0 = [32] := rfl
theorem shown_other (r : Int) (h : r ≠ 0) : shownZ r = Lib.encodeRuneZ r := by unfold shownZ; rw [if_neg h]

theorem shown_pos (r : Int) : 0 < (shownZ r).length := by
  unfold shownZ
  split
  · simp
  · have := (Lib.encodeRuneZ_length r).1; omega

/-- A row of bytes that the call owns, written out. -/
theorem row_of {w : World} {B : Nat} {v : Value} {zs : List Int} (h0 : 0 < zs.length) (h : w.ownsRow B 5 1 v zs.length (zs.map (Value.int .u8))) :
    ∃ g cap, v = .slice (some ⟨g, 0, none⟩) zs.length cap ∧ Hid (g < w.heap.size ∧ ∀ k, k < zs.length → w.cell? ⟨g, k, none⟩ = some (.int .u8 (zs.getD k 0))) := by
  have h' := h
  rcases h.2 with ⟨_, h1⟩ | ⟨g, cap, cur, rfl, _, hg, _⟩
  · omega
  · refine ⟨g, cap, rfl, (Array.getElem?_eq_some_iff.1 hg).1, fun k hk => ?_⟩
    rw [h'.cellAt k (by omega)]
    simp [List.getD_eq_getElem?_getD, hk]

theorem newCursor_calls (b : Bool) (w : World) :
    Calls Try.prog 4 #[.bool b] w fun e w' => e = .returned (.pointer (some ⟨w.heap.size, 0, none⟩)) ∧ w' = w.alloc (.cells #[.int .i64 0, .int .i64 0, .bool false, .bool false, .int .u8 0, .int .u8 0, .int .u8 0, .int .u8 0, .int .i64 0, .bool b] 33) := by
  go_enter Try.func4, Try.ntmps4
  go_wp2
  go_ret
  exact ⟨rfl, rfl⟩

/-- The cell of a cursor: the mark is bit 30. -/
def cellZ (b : Bool) (r : Int) : Int := if b = true then r + 1073741824 else r

theorem cellOf_calls (C : Nat) (b : Bool) (r : Nat) (hr : r < 1073741824) (w : World) (h : w.cell? ⟨C, 9, none⟩ = some (.bool b)) :
    Calls Try.prog 5 #[.pointer (some ⟨C, 0, none⟩), .int .i32 r] w fun e w' => e = .returned (.int .i32 (cellZ b r)) ∧ w' = w := by
  have ho := or_mark r hr
  cases b with
  | true =>
    go_enter Try.func5, Try.ntmps5
    go_wp2
    go_ret
    exact ⟨rfl, rfl⟩
  | false =>
    go_enter Try.func5, Try.ntmps5
    go_wp2
    go_ret
    exact ⟨rfl, rfl⟩

theorem not_cell (b : Bool) (r : Nat) (hr : r < 1073741824) : bits .andNot .i32 (cellZ b r) 1073741824 = (r : Int) := by
  cases b with
  | true => exact not_yes r hr
  | false => exact not_no r hr
theorem and_cell (b : Bool) (r : Nat) (hr : r < 1073741824) : (bits .and .i32 (cellZ b r) 1073741824 != 0) = b := by
  cases b with
  | true => show (bits .and .i32 ((r : Int) + 1073741824) 1073741824 != 0) = true; rw [and_yes r hr]; rfl
  | false => show (bits .and .i32 (r : Int) 1073741824 != 0) = false; rw [and_no r hr]; rfl

set_option maxHeartbeats 2000000 in
theorem appendCell_zero (a : Addr) (c : Int) (hc : bits .andNot .i32 c 1073741824 = 0) (w : World) :
    Calls Try.prog 11 #[.pointer (some a), .slice none 0 0, .int .i32 c] w fun e w' => ∃ v', e = .returned v' ∧ w'.ownsRow w.heap.size 5 1 v' 1 [.int .u8 32] ∧ Below w.heap.size w w' := by
  obtain ⟨i0, hi, hz0, hz1, hz2⟩ := info_parts Try.info5
  go_enter Try.func11, Try.ntmps11
  go_wp2_with (at_builtin; refine wpList_append_own _ rfl _ _ 25 rfl w.heap.size 5 i0 (.int .u8 0) 1 1 Try.underlying25 hi hz0 hz1 hz2 rfl (by decide) _ _ _ rfl (World.ownsRow_nil _ _ _ _) ⟨w.heap.size, 0, none⟩ 1 1 [.int .u8 32] rfl rfl ?c1 ?c2 ?c3 ?c4 ?c5 ?_)
  case c1 => exact new_row w [.int .u8 32] 5
  case c2 => exact cells_one [32]
  case c3 => unfold maxLen; omega
  case c4 => omega
  case c5 => exact size_new _ _
  intro v' w2 hown' hgrow _
  have hb := grown_new hgrow
  clear hgrow
  go_wp2
  go_ret
  exact ⟨_, rfl, hown', hb⟩

set_option maxHeartbeats 2000000 in
theorem appendCell_other (a : Addr) (c r : Int) (h0 : 0 < r) (hr : r ≤ 1114111) (hc : bits .andNot .i32 c 1073741824 = r) (w : World) :
    Calls Try.prog 11 #[.pointer (some a), .slice none 0 0, .int .i32 c] w fun e w' => ∃ v', e = .returned v' ∧ w'.ownsRow w.heap.size 5 1 v' (Lib.encodeRuneZ r).length ((Lib.encodeRuneZ r).map (Value.int .u8)) ∧ Below w.heap.size w w' := by
  have e0 : (r == 0) = false := beq_eq_false_iff_ne.2 (by omega)
  have e1 : (r == 1114112) = false := beq_eq_false_iff_ne.2 (by omega)
  go_enter Try.func11, Try.ntmps11
  go_wp2_with fail
  refine (appendRune_calls r (by omega) (by omega) w).mono ?_
  rintro e w1 ⟨v', rfl, hown, hb⟩
  go_wp2
  go_ret
  exact ⟨v', rfl, hown, hb⟩

theorem appendCell_calls (a : Addr) (c r : Int) (h0 : 0 ≤ r) (hr : r ≤ 1114111) (hc : bits .andNot .i32 c 1073741824 = r) (w : World) :
    Calls Try.prog 11 #[.pointer (some a), .slice none 0 0, .int .i32 c] w fun e w' => ∃ v', e = .returned v' ∧ w'.ownsRow w.heap.size 5 1 v' (shownZ r).length ((shownZ r).map (Value.int .u8)) ∧ Below w.heap.size w w' := by
  by_cases h : r = 0
  · subst h; exact appendCell_zero a c hc w
  · rw [shown_other r h]; exact appendCell_other a c r (by omega) hr hc w

theorem zzAppendCell_calls (c r : Int) (h0 : 0 ≤ r) (hr : r ≤ 1114111) (hc : bits .andNot .i32 c 1073741824 = r) (w : World) :
    Calls Try.prog 6 #[.slice none 0 0, .int .i32 c] w fun e w' => ∃ g cap, e = .returned (.slice (some ⟨g, 0, none⟩) (shownZ r).length cap) ∧ Hid (g < w'.heap.size ∧ ∀ k, k < (shownZ r).length → w'.cell? ⟨g, k, none⟩ = some (.int .u8 ((shownZ r).getD k 0))) ∧ Below w.heap.size w w' := by
  have HC : Hid (bits .andNot .i32 c 1073741824 = r) := hc
  clear hc
  go_enter Try.func6, Try.ntmps6
  go_wp2_with fail
  refine (newScreen_calls w).mono ?_
  rintro e w1 ⟨a, rfl, hb1⟩
  go_wp2_with fail
  refine (appendCell_calls a c r h0 hr HC.out w1).mono ?_
  rintro e w2 ⟨v', rfl, hown, hb2⟩
  have hex : ∃ g cap, v' = .slice (some ⟨g, 0, none⟩) (shownZ r).length cap ∧ Hid (g < w2.heap.size ∧ ∀ k, k < (shownZ r).length → w2.cell? ⟨g, k, none⟩ = some (.int .u8 ((shownZ r).getD k 0))) := row_of (shown_pos r) hown
  have hbb : Below w.heap.size w w2 := hb1.trans (hb2.mono hb1.size)
  obtain ⟨g, cap, hv, HG⟩ := hex
  clear hown hb1 hb2
  rw [hv]
  go_wp2
  go_ret
  exact ⟨g, cap, rfl, HG, hbb⟩

end Go.Proofs.Qxb6603607a
