/- The walks of (*Screen).fullWidth and (*Screen).reset at a screen of one cell. -/
import Derived.Test.Qxb6603607aClear
namespace Go.Proofs.Qxb6603607a
open Go.RowKit

/-- Block B is a Screen of one column and one row (87 cells), block L its one row. The place 43 is the parser's latin1. -/
def Scr (B L : Nat) (w : World) : Prop :=
  ∃ cur : List Value, w.heap[B]? = some (.cells cur.toArray 57 (0, 0)) ∧ cur.length = 87 ∧ cur[44]? = some (.int .i64 1) ∧ cur[45]? = some (.int .i64 1) ∧ cur[47]? = some (.slice (some ⟨L, 0, none⟩) 1 1) ∧ (∃ b, cur[76]? = some (.bool b)) ∧ ∃ b, cur[43]? = some (.bool b)

theorem row_cell {w : World} {g : Nat} {cs : List Value} {e : TypeId} (h : w.heap[g]? = some (.cells cs.toArray e (0, 0))) (k : Nat) : w.cell? ⟨g, k, none⟩ = cs[k]? := by
  rw [cell_of_row w g k cs.toArray e (0, 0) h]; simp

theorem Scr.cell {B L : Nat} {w : World} (h : Scr B L w) (o : Nat) (ho : o < 87) : ∃ v, w.cell? ⟨B, o, none⟩ = some v := by
  obtain ⟨cur, h1, h2, _⟩ := h
  exact ⟨cur[o]'(by omega), by rw [row_cell h1 o]; exact List.getElem?_eq_getElem _⟩
theorem Scr.frozen {B L : Nat} {w : World} (h : Scr B L w) (o : Nat) : w.frozen? ⟨B, o, none⟩ = false := by
  obtain ⟨cur, h1, _⟩ := h
  exact frozen_of_row w B o cur.toArray 57 h1
theorem Scr.c44 {B L : Nat} {w : World} (h : Scr B L w) : w.cell? ⟨B, 44, none⟩ = some (.int .i64 1) := by
  obtain ⟨cur, h1, _, h2, _⟩ := h; rw [row_cell h1]; exact h2
theorem Scr.c45 {B L : Nat} {w : World} (h : Scr B L w) : w.cell? ⟨B, 45, none⟩ = some (.int .i64 1) := by
  obtain ⟨cur, h1, _, _, h2, _⟩ := h; rw [row_cell h1]; exact h2
theorem Scr.c47 {B L : Nat} {w : World} (h : Scr B L w) : w.cell? ⟨B, 47, none⟩ = some (.slice (some ⟨L, 0, none⟩) 1 1) := by
  obtain ⟨cur, h1, _, _, _, h2, _⟩ := h; rw [row_cell h1]; exact h2
theorem Scr.c76 {B L : Nat} {w : World} (h : Scr B L w) : ∃ b, w.cell? ⟨B, 76, none⟩ = some (.bool b) := by
  obtain ⟨cur, h1, _, _, _, _, ⟨b, h2⟩, _⟩ := h; exact ⟨b, by rw [row_cell h1]; exact h2⟩
theorem Scr.cp {B L : Nat} {w : World} (h : Scr B L w) : ∃ b, w.cell? ⟨B, 43, none⟩ = some (.bool b) := by
  obtain ⟨cur, h1, _, _, _, _, _, ⟨b, h2⟩⟩ := h; exact ⟨b, by rw [row_cell h1]; exact h2⟩

theorem Scr.set {B L : Nat} {w : World} (h : Scr B L w) (o : Nat) (v : Value) (ho : 51 ≤ o) (h76 : o ≠ 76) : Scr B L (w.setCell ⟨B, o, none⟩ v) := by
  obtain ⟨cur, h1, h2, h3, h4, h5, h6, h7⟩ := h
  refine ⟨cur.set o v, by simp [World.setCell, Array.getElem?_modify, h1], by simp [h2], ?_, ?_, ?_, ?_, ?_⟩
  · rw [List.getElem?_set_ne (by omega)]; exact h3
  · rw [List.getElem?_set_ne (by omega)]; exact h4
  · rw [List.getElem?_set_ne (by omega)]; exact h5
  · rw [List.getElem?_set_ne (by omega)]; exact h6
  · rw [List.getElem?_set_ne (by omega)]; exact h7
theorem Scr.set46 {B L : Nat} {w : World} (h : Scr B L w) (v : Value) : Scr B L (w.setCell ⟨B, 46, none⟩ v) := by
  obtain ⟨cur, h1, h2, h3, h4, h5, h6, h7⟩ := h
  refine ⟨cur.set 46 v, by simp [World.setCell, Array.getElem?_modify, h1], by simp [h2], ?_, ?_, ?_, ?_, ?_⟩
  · rw [List.getElem?_set_ne (by omega)]; exact h3
  · rw [List.getElem?_set_ne (by omega)]; exact h4
  · rw [List.getElem?_set_ne (by omega)]; exact h5
  · rw [List.getElem?_set_ne (by omega)]; exact h6
  · rw [List.getElem?_set_ne (by omega)]; exact h7
theorem Scr.set76 {B L : Nat} {w : World} (h : Scr B L w) (b : Bool) : Scr B L (w.setCell ⟨B, 76, none⟩ (.bool b)) := by
  obtain ⟨cur, h1, h2, h3, h4, h5, h6, h7⟩ := h
  refine ⟨cur.set 76 (.bool b), by simp [World.setCell, Array.getElem?_modify, h1], by simp [h2], ?_, ?_, ?_, ?_, ?_⟩
  · rw [List.getElem?_set_ne (by omega)]; exact h3
  · rw [List.getElem?_set_ne (by omega)]; exact h4
  · rw [List.getElem?_set_ne (by omega)]; exact h5
  · exact ⟨b, List.getElem?_set_self (by omega)⟩
  · rw [List.getElem?_set_ne (by omega)]; exact h7
theorem Scr.drew {B L : Nat} {w : World} (h : Scr B L w) : Scr B L w.drew := h
theorem Scr.lt {B L : Nat} {w : World} (h : Scr B L w) : B < w.heap.size := by
  obtain ⟨cur, h1, _⟩ := h
  exact (Array.getElem?_eq_some_iff.1 h1).1
theorem Scr.grown {B L : Nat} {w w' : World} (h : Scr B L w) (hg : w.grownBy w' (some L)) (hBL : B ≠ L) : Scr B L w' := by
  have hl := h.lt
  obtain ⟨cur, h1, h2⟩ := h
  exact ⟨cur, by rw [hg.block B hl (fun e => hBL (Option.some.inj e))]; exact h1, h2⟩

theorem fullWidth_calls (B L : Nat) (w : World) (h : Scr B L w) :
    Calls Try.prog 16 #[.pointer (some ⟨B, 0, none⟩)] w fun e w' => e = .returned (.tuple #[]) ∧ Scr B L w' ∧ ∀ K w0, K ≤ B → Below K w0 w → Below K w0 w' := by
  have h44 := h.c44
  obtain ⟨x67, c67⟩ := h.cell 67 (by omega)
  obtain ⟨x68, c68⟩ := h.cell 68 (by omega)
  have f67 := h.frozen 67
  have f68 := h.frozen 68
  go_enter Try.func16, Try.ntmps16
  go_wp2
  go_end0
  exact ⟨rfl, (h.set 67 _ (by omega) (by omega)).set 68 _ (by omega) (by omega), fun K w0 hK hb => (hb.setCell hK _).setCell hK _⟩

set_option maxHeartbeats 2000000 in
theorem reset_calls (B L : Nat) (w : World) (hBL : B ≠ L) (h : Scr B L w) (h2 : w.cell? ⟨L, 0, none⟩ = some (.slice none 0 0)) (h3 : w.frozen? ⟨L, 0, none⟩ = false) (K : Nat) (w0 : World) (hKB : K ≤ B) (hKL : K ≤ L) (hb : Below K w0 w) :
    Calls Try.prog 13 #[.pointer (some ⟨B, 0, none⟩)] w fun e w' => e = .returned (.tuple #[]) ∧ Below K w0 w' := by
  go_enter Try.func13, Try.ntmps13
  go_wp2_with fail
  refine (clear_calls B 47 L w h.c47 h2 h3).mono ?_
  rintro e w1 ⟨rfl, hg⟩
  have S1 := h.grown hg hBL
  have hb1 : Below K w0 w1 := hb.grown hg (Nat.le_trans hKB (Nat.le_of_lt h.lt)) (fun k e => by cases e; exact hKL)
  clear h h2 h3 hb hg
  obtain ⟨x46, c46⟩ := S1.cell 46 (by omega)
  obtain ⟨x51, c51⟩ := S1.cell 51 (by omega)
  have f46 := S1.frozen 46
  have f51 := S1.frozen 51
  go_wp2
  have S2 := (S1.set46 (.pointer (some ⟨B, 47, none⟩))).set 51 (.bool false) (by omega) (by omega)
  have hb2 := (hb1.setCell (p := ⟨B, 46, none⟩) hKB (.pointer (some ⟨B, 47, none⟩))).setCell (p := ⟨B, 51, none⟩) hKB (.bool false)
  clear S1 hb1 c46 c51 f46 f51
  generalize (w1.setCell ⟨B, 46, none⟩ (.pointer (some ⟨B, 47, none⟩))).setCell ⟨B, 51, none⟩ (.bool false) = w2 at *
  obtain ⟨x52, c52⟩ := S2.cell 52 (by omega)
  have f52 := S2.frozen 52
  obtain ⟨x53, c53⟩ := S2.cell 53 (by omega)
  have f53 := S2.frozen 53
  obtain ⟨x54, c54⟩ := S2.cell 54 (by omega)
  have f54 := S2.frozen 54
  obtain ⟨x55, c55⟩ := S2.cell 55 (by omega)
  have f55 := S2.frozen 55
  obtain ⟨x56, c56⟩ := S2.cell 56 (by omega)
  have f56 := S2.frozen 56
  obtain ⟨x57, c57⟩ := S2.cell 57 (by omega)
  have f57 := S2.frozen 57
  obtain ⟨x58, c58⟩ := S2.cell 58 (by omega)
  have f58 := S2.frozen 58
  obtain ⟨x59, c59⟩ := S2.cell 59 (by omega)
  have f59 := S2.frozen 59
  obtain ⟨x60, c60⟩ := S2.cell 60 (by omega)
  have f60 := S2.frozen 60
  obtain ⟨x61, c61⟩ := S2.cell 61 (by omega)
  have f61 := S2.frozen 61
  obtain ⟨x62, c62⟩ := S2.cell 62 (by omega)
  have f62 := S2.frozen 62
  obtain ⟨x64, c64⟩ := S2.cell 64 (by omega)
  have f64 := S2.frozen 64
  go_region
  have S3 := ((((((((((((S2.set 52 (.int .i64 0) (by omega) (by omega)).set 53 (.int .i64 0) (by omega) (by omega)).set 54 (.bool false) (by omega) (by omega)).set 55 (.bool false) (by omega) (by omega)).set 56 (.int .u8 0) (by omega) (by omega)).set 57 (.int .u8 0) (by omega) (by omega)).set 58 (.int .u8 0) (by omega) (by omega)).set 59 (.int .u8 0) (by omega) (by omega)).set 60 (.int .i64 0) (by omega) (by omega)).set 61 (.bool false) (by omega) (by omega)).set 62 (.pointer none) (by omega) (by omega)).set 64 (.int .i64 0) (by omega) (by omega)).drew
  have hb3 := ((((((((((((hb2.setCell (p := ⟨B, 52, none⟩) hKB (.int .i64 0)).setCell (p := ⟨B, 53, none⟩) hKB (.int .i64 0)).setCell (p := ⟨B, 54, none⟩) hKB (.bool false)).setCell (p := ⟨B, 55, none⟩) hKB (.bool false)).setCell (p := ⟨B, 56, none⟩) hKB (.int .u8 0)).setCell (p := ⟨B, 57, none⟩) hKB (.int .u8 0)).setCell (p := ⟨B, 58, none⟩) hKB (.int .u8 0)).setCell (p := ⟨B, 59, none⟩) hKB (.int .u8 0)).setCell (p := ⟨B, 60, none⟩) hKB (.int .i64 0)).setCell (p := ⟨B, 61, none⟩) hKB (.bool false)).setCell (p := ⟨B, 62, none⟩) hKB (.pointer none)).setCell (p := ⟨B, 64, none⟩) hKB (.int .i64 0)).drew
  clear S2 hb2 c52 f52 c53 f53 c54 f54 c55 f55 c56 f56 c57 f57 c58 f58 c59 f59 c60 f60 c61 f61 c62 f62 c64 f64
  generalize World.drew ((((((((((((w2.setCell ⟨B, 52, none⟩ (.int .i64 0)).setCell ⟨B, 53, none⟩ (.int .i64 0)).setCell ⟨B, 54, none⟩ (.bool false)).setCell ⟨B, 55, none⟩ (.bool false)).setCell ⟨B, 56, none⟩ (.int .u8 0)).setCell ⟨B, 57, none⟩ (.int .u8 0)).setCell ⟨B, 58, none⟩ (.int .u8 0)).setCell ⟨B, 59, none⟩ (.int .u8 0)).setCell ⟨B, 60, none⟩ (.int .i64 0)).setCell ⟨B, 61, none⟩ (.bool false)).setCell ⟨B, 62, none⟩ (.pointer none)).setCell ⟨B, 64, none⟩ (.int .i64 0)) = w3 at *
  have c45 := S3.c45
  obtain ⟨b76, c76⟩ := S3.c76
  have f76 := S3.frozen 76
  obtain ⟨bp, cp⟩ := S3.cp
  obtain ⟨x75, c75⟩ := S3.cell 75 (by omega)
  have f75 := S3.frozen 75
  obtain ⟨x65, c65⟩ := S3.cell 65 (by omega)
  have f65 := S3.frozen 65
  obtain ⟨x66, c66⟩ := S3.cell 66 (by omega)
  have f66 := S3.frozen 66
  obtain ⟨x69, c69⟩ := S3.cell 69 (by omega)
  have f69 := S3.frozen 69
  obtain ⟨b4, S4, hb4, hb4e⟩ : ∃ b4 : Bool, Scr B L (((((w3.setCell ⟨B, 76, none⟩ (.bool b4)).setCell ⟨B, 75, none⟩ (.bool false)).setCell ⟨B, 65, none⟩ (.int .i64 0)).setCell ⟨B, 66, none⟩ (.int .i64 0)).setCell ⟨B, 69, none⟩ (.bool false)) ∧
      Below K w0 (((((w3.setCell ⟨B, 76, none⟩ (.bool b4)).setCell ⟨B, 75, none⟩ (.bool false)).setCell ⟨B, 65, none⟩ (.int .i64 0)).setCell ⟨B, 66, none⟩ (.int .i64 0)).setCell ⟨B, 69, none⟩ (.bool false)) ∧ Hid (b4 = (b76 || bp)) :=
    ⟨b76 || bp, ((((S3.set76 _).set 75 _ (by omega) (by omega)).set 65 _ (by omega) (by omega)).set 66 _ (by omega) (by omega)).set 69 _ (by omega) (by omega), ((((hb3.setCell hKB _).setCell hKB _).setCell hKB _).setCell hKB _).setCell hKB _, rfl⟩
  clear S3 hb3
  have hcases : (b76 = true ∧ b4 = true) ∨ (b76 = false ∧ bp = b4) := by
    have := hb4e.out
    cases b76 with
    | true => exact .inl ⟨rfl, by simpa using this⟩
    | false => exact .inr ⟨rfl, by simpa using this.symm⟩
  clear hb4e
  rcases hcases with ⟨rfl, rfl⟩ | ⟨rfl, rfl⟩
  all_goals
    go_wp2_with fail
    refine (fullWidth_calls B L _ S4).mono ?_
    rintro e w5 ⟨rfl, S5, hall⟩
    have hb5 := hall K w0 hKB hb4
    clear hall S4 hb4 c45 c76 cp f76 c75 f75 c65 f65 c66 f66 c69 f69
    obtain ⟨x70, c70⟩ := S5.cell 70 (by omega)
    have f70 := S5.frozen 70
    obtain ⟨x71, c71⟩ := S5.cell 71 (by omega)
    have f71 := S5.frozen 71
    obtain ⟨x72, c72⟩ := S5.cell 72 (by omega)
    have f72 := S5.frozen 72
    obtain ⟨x73, c73⟩ := S5.cell 73 (by omega)
    have f73 := S5.frozen 73
    obtain ⟨x74, c74⟩ := S5.cell 74 (by omega)
    have f74 := S5.frozen 74
    obtain ⟨x77, c77⟩ := S5.cell 77 (by omega)
    have f77 := S5.frozen 77
    obtain ⟨x78, c78⟩ := S5.cell 78 (by omega)
    have f78 := S5.frozen 78
    obtain ⟨x79, c79⟩ := S5.cell 79 (by omega)
    have f79 := S5.frozen 79
    obtain ⟨x81, c81⟩ := S5.cell 81 (by omega)
    have f81 := S5.frozen 81
    go_wp2
    go_end0
    exact ⟨rfl, (((((((((hb5.setCell hKB _).setCell hKB _).setCell hKB _).setCell hKB _).setCell hKB _).setCell hKB _).setCell hKB _).setCell hKB _).setCell hKB _)⟩

end Go.Proofs.Qxb6603607a
