/- The walks of newGrid and NewScreen(1, 1): a pointer that is not nil; nothing old has turned. -/
import Derived.Test.Qxb6603607aReset
namespace Go.Proofs.Qxb6603607a
open Go.RowKit

theorem mk40 (w : World) : (Instr.makeSlice 40 (.int .i64 1) (.int .i64 1)).run Try.prog w = .ok (.slice (some ⟨w.heap.size, 0, none⟩) 1 1) (w.alloc (.cells #[.slice none 0 0] 59)) := by kernel_rfl

set_option maxHeartbeats 1000000 in
theorem newGrid_calls (w : World) : Calls Try.prog 12 #[.int .i64 1] w fun e w' => e = .returned (.agg #[.slice (some ⟨w.heap.size + 1, 0, none⟩) 1 1, .int .i64 0]) ∧
    w' = (w.alloc (.cells #[.slice (some ⟨w.heap.size + 1, 0, none⟩) 1 1, .int .i64 0] 42)).alloc (.cells #[.slice none 0 0] 59) := by
  have hmk := mk40
  go_enter Try.func12, Try.ntmps12
  go_wp2
  exact bodyPost_ret (v := .agg #[.slice (some ⟨w.heap.size + 1, 0, none⟩) 1 1, .int .i64 0]) (by simp [results, Try.results12, go_sem]) rfl ⟨rfl, rfl⟩

/-- A Screen's zero value: 87 cells. -/
theorem zl_facts : ∃ Z : List Value, (∀ w, (zeroValue 57).run Try.prog w = .ok (.agg Z.toArray) w) ∧ Z.length = 87 ∧ Hid (Z[43]? = some (.bool false)) ∧ Hid (Z[76]? = some (.bool false)) :=
  ⟨((Try.t57.zero.getD undef).cells).toList, fun w => by kernel_rfl, by kernel_rfl, (show _ = _ from by kernel_rfl), (show _ = _ from by kernel_rfl)⟩

theorem heap_last (w : World) (o : Obj) : (w.alloc o).heap[w.heap.size]? = some o := by
  show (w.heap.push o)[w.heap.size]? = _
  rw [Array.getElem?_push_size]

/-- The new screen's block. -/
theorem scr_new (Z : List Value) (L : Nat) (w : World) (hZl : Z.length = 87) (h43 : Z[43]? = some (.bool false)) (h76 : Z[76]? = some (.bool false)) :
    Scr w.heap.size L (w.alloc (.cells ((((Z.set 44 (.int .i64 1)).set 45 (.int .i64 1)).set 47 (.slice (some ⟨L, 0, none⟩) 1 1)).set 48 (.int .i64 0)).toArray 57)) := by
  refine ⟨_, heap_last w _, by simp [hZl], ?_, ?_, ?_, ⟨false, ?_⟩, false, ?_⟩
  · rw [List.getElem?_set_ne (by omega), List.getElem?_set_ne (by omega), List.getElem?_set_ne (by omega), List.getElem?_set_self (by omega)]
  · rw [List.getElem?_set_ne (by omega), List.getElem?_set_ne (by omega), List.getElem?_set_self (by simp; omega)]
  · rw [List.getElem?_set_ne (by omega), List.getElem?_set_self (by simp; omega)]
  · rw [List.getElem?_set_ne (by omega), List.getElem?_set_ne (by omega), List.getElem?_set_ne (by omega), List.getElem?_set_ne (by omega)]; exact h76
  · rw [List.getElem?_set_ne (by omega), List.getElem?_set_ne (by omega), List.getElem?_set_ne (by omega), List.getElem?_set_ne (by omega)]; exact h43

set_option maxHeartbeats 1000000 in
theorem newScreen_calls (w : World) : Calls Try.prog 10 #[.int .i64 1, .int .i64 1] w fun e w' => ∃ a, e = .returned (.pointer (some a)) ∧ Below w.heap.size w w' := by
  obtain ⟨Z, hZ, hZl, h43, h76⟩ := zl_facts
  go_enter Try.func10, Try.ntmps10
  go_wp2_with fail
  refine (newGrid_calls _).mono ?_
  rintro e w1 ⟨rfl, rfl⟩
  go_wp2_with fail
  obtain ⟨W2, hW2, hsz, hL, hF, hbW⟩ : ∃ W2, W2 = (w.alloc (.cells #[.slice (some ⟨w.heap.size + 1, 0, none⟩) 1 1, .int .i64 0] 42)).alloc (.cells #[.slice none 0 0] 59) ∧ W2.heap.size = w.heap.size + 1 + 1 ∧
      W2.cell? ⟨w.heap.size + 1, 0, none⟩ = some (.slice none 0 0) ∧ W2.frozen? ⟨w.heap.size + 1, 0, none⟩ = false ∧ Below w.heap.size w W2 :=
    ⟨_, rfl, by simp, by simp, by simp, ((Below.refl _ _).alloc (Nat.le_refl _) _).alloc (by simp) _⟩
  rw [← hW2, ← hsz]
  have HS := scr_new Z (w.heap.size + 1) W2 hZl h43.out h76.out
  have hbS : Below w.heap.size w (W2.alloc (.cells ((((Z.set 44 (.int .i64 1)).set 45 (.int .i64 1)).set 47 (.slice (some ⟨w.heap.size + 1, 0, none⟩) 1 1)).set 48 (.int .i64 0)).toArray 57)) := hbW.alloc hbW.size _
  refine (reset_calls W2.heap.size (w.heap.size + 1) _ (by omega) HS ?_ ?_ w.heap.size w (by omega) (by omega) hbS).mono ?_
  · rw [World.cell?_alloc_lt _ _ _ (by show w.heap.size + 1 < _; omega)]; exact hL
  · rw [World.frozen?_alloc_old _ _ _ (by show w.heap.size + 1 ≠ _; omega)]; exact hF
  rintro e w5 ⟨rfl, hb5⟩
  clear HS hbS hL hF hbW hZ
  go_wp2
  go_ret
  exact ⟨_, rfl, hb5⟩
end Go.Proofs.Qxb6603607a
