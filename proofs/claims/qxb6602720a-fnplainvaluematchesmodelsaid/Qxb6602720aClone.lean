/- The walk of cloneJB1: a fresh copy. -/
import Derived.Test.Qxb6602720aProg
import Derived.WalkKit
import Derived.Outline
import Derived.WalkSpells
import Derived.Lib.SliceRun
import Derived.Laws.CopyOwn
namespace Go.Proofs.Qxb6602720a
open Go.RowKit

theorem Try.info5 : (Try.prog.info? 5).map (fun i => (i.zero, i.size, i.bytes)) = some (some (.int .u8 0), 1, 1) := by kernel_rfl

/-- A slice of bytes among the call's own blocks (numbers from B on), or nil: its bytes are 'zs'. -/
def RowB (B : Nat) (w : World) (ao : Option Addr) (len cap : Nat) (zs : List Int) : Prop :=
  zs.length = len ∧ ((ao = none ∧ len = 0 ∧ cap = 0) ∨ ∃ g, ao = some ⟨g, 0, none⟩ ∧ B ≤ g ∧ g < w.heap.size ∧ ∀ k, k < len → w.cell? ⟨g, k, none⟩ = some (.int .u8 (zs.getD k 0)))

theorem RowB.below {B : Nat} {w w' : World} {ao : Option Addr} {len cap : Nat} {zs : List Int} (h : RowB B w ao len cap zs) (hb : Below w.heap.size w w') : RowB B w' ao len cap zs := by
  refine ⟨h.1, ?_⟩
  rcases h.2 with h | ⟨g, rfl, h1, h2, h3⟩
  · exact .inl h
  · refine .inr ⟨g, rfl, h1, by have := hb.size; omega, fun k hk => ?_⟩
    rw [hb.cell (p := ⟨g, k, none⟩) h2]; exact h3 k hk

theorem RowB.mono {B B' : Nat} {w : World} {ao : Option Addr} {len cap : Nat} {zs : List Int} (h : RowB B w ao len cap zs) (hB : B' ≤ B) : RowB B' w ao len cap zs := by
  refine ⟨h.1, ?_⟩
  rcases h.2 with h | ⟨g, rfl, h1, h2, h3⟩
  · exact .inl h
  · exact .inr ⟨g, rfl, by omega, h2, h3⟩

theorem clone_nil (w : World) : Calls Try.prog 13 #[.slice none 0 0] w fun e w' => e = .returned (.slice none 0 0) ∧ w' = w := by
  have q22 : ∀ (w : World) (a : Option Addr) (n c n' c' : Nat), (binOp .eql 22 (.slice a n c) (.slice none n' c')).run Try.prog w = .ok (.bool a.isNone) w := fun w a n c n' c' => Lib.run_eql_slice_nil w _ _ a n c n' c' Try.underlying22
  go_enter Try.func13, Try.ntmps13
  go_wp2
  go_ret
  exact ⟨rfl, rfl⟩

theorem splice_all {α : Type} (L cs : List α) (h : cs.length = L.length) : splice L 0 cs = cs := by
  unfold splice; simp [h]

theorem own_block {w : World} {base : Nat} {e : TypeId} {g n cap : Nat} {xs : List Value} (h : w.ownsRow base e 1 (.slice (some ⟨g, 0, none⟩) n cap) n xs) :
    ∃ cur : List Value, Hid (w.heap[g]? = some (.cells cur.toArray e (0, 0))) ∧ Hid (cur.length = cap) := by
  rcases h.2 with ⟨h', _⟩ | ⟨g', cap', cur, h', _, hg, _, _, hs, _⟩
  · cases h'
  · simp only [Value.slice.injEq, Option.some.injEq, Addr.mk.injEq, and_true, true_and] at h'
    obtain ⟨rfl, rfl⟩ := h'
    exact ⟨cur.toList, by simpa [Hid] using hg, by simpa [Hid] using hs⟩

theorem below_make {w w0 : World} (h : w.grownBy w0 none) : Below w.heap.size w w0 := (Below.refl _ _).grown h (Nat.le_refl _) (fun _ h => by cases h)

theorem row_cell {w : World} {g : Nat} {cs : List Value} {e : TypeId} (h : w.heap[g]? = some (.cells cs.toArray e (0, 0))) (k : Nat) : w.cell? ⟨g, k, none⟩ = cs[k]? := by
  rw [cell_of_row w g k cs.toArray e (0, 0) h]; simp

set_option maxHeartbeats 1000000 in
theorem clone_some (x : Addr) (len cap : Nat) (zs : List Int) (w : World) (hm : len ≤ 2000000) (hz : len ≤ zs.length)
    (hc : ∀ k, k < len → w.cell? (x.add k) = some (.int .u8 (zs.getD k 0))) :
    Calls Try.prog 13 #[.slice (some x) len cap] w fun e w' => e = .returned (.slice (some ⟨w.heap.size, 0, none⟩) len len) ∧ w.heap.size < w'.heap.size ∧
      (∀ k, k < len → w'.cell? ⟨w.heap.size, k, none⟩ = some (.int .u8 (zs.getD k 0))) ∧ Below w.heap.size w w' := by
  have q22 : ∀ (w : World) (a : Option Addr) (n c n' c' : Nat), (binOp .eql 22 (.slice a n c) (.slice none n' c')).run Try.prog w = .ok (.bool a.isNone) w := fun w a n c n' c' => Lib.run_eql_slice_nil w _ _ a n c n' c' Try.underlying22
  obtain ⟨i0, hi, hz0, hz1, hz2⟩ := info_parts Try.info5
  have hsz : (Try.prog.info? 5).map (·.size) = some 1 := by rw [hi]; simp [hz1]
  obtain ⟨cs, hcs⟩ : ∃ cs, cs = (zs.take len).map (Value.int .u8) := ⟨_, rfl⟩
  have hcl : cs.length = len := by rw [hcs]; simp; omega
  have hcg : ∀ k, k < len → cs[k]? = some (.int .u8 (zs.getD k 0)) := by
    intro k hk; rw [hcs]; simp [hk, List.getD_eq_getElem?_getD]; have : k < zs.length := by omega
    simp [this]
  have H1 : Hid (∀ v ∈ cs, v.oneCell' = true) := by rw [hcs]; exact ints_oneCell _ _
  have HC : Hid (∀ k, k < len → w.cell? (x.add k) = some (.int .u8 (zs.getD k 0))) := hc
  have HCG : Hid (∀ k, k < len → cs[k]? = some (.int .u8 (zs.getD k 0))) := hcg
  have HCL : Hid (cs.length = len) := hcl
  clear hcs hc hcg hcl
  go_enter Try.func13, Try.ntmps13
  go_wp2_with (first
    | (at_make; refine wpList_make_full _ rfl (.tmp 7) (.tmp 7) 22 rfl w.heap.size 5 i0 (.int .u8 0) 1 Try.underlying22 hi hz0 hz1 .i64 .i64 _ _ len rfl rfl rfl rfl (by rw [hz2]; omega) (by unfold maxLen; omega) (Nat.le_refl _) ?_; intro w0 hown0 hgrow0; obtain ⟨cur, HB, HL⟩ := own_block hown0; have hb0 := below_make hgrow0; clear hown0 hgrow0)
    | (refine wpList_copy_splice rfl (.tmp 9) (.tmp 10) 22 22 rfl 5 Try.underlying22 hsz (some ⟨w.heap.size, 0, none⟩) (some x) len len len cap rfl rfl w.heap.size 0 cur 5 HB.out cs ?h1 ?h2 ?h3 H1.out w.heap.size w hb0 (Nat.le_refl _) ?_; rotate_right; intro w1 HG hb1))
  case h1 => rw [HCL.out]; exact (Nat.min_self len).symm
  case h2 =>
    intro h0 j v hj
    have hjl : j < len := by have := (List.getElem?_eq_some_iff.1 hj).1; rw [HCL.out] at this; exact this
    rw [HCG.out j hjl] at hj
    obtain rfl := Option.some.inj hj
    rw [hb0.cell (p := x.add j) (World.block_lt_of_cell? _ _ (HC.out j hjl))]
    exact HC.out j hjl
  case h3 => rw [HCL.out, HL.out]; omega
  have hfin := HG.out
  rw [splice_all cur cs (by rw [HCL.out, HL.out])] at hfin
  go_ret
  refine ⟨rfl, ?_, ?_, hb1⟩
  · exact (Array.getElem?_eq_some_iff.1 hfin).1
  · intro k hk
    rw [row_cell hfin k]; exact HCG.out k hk

/-- What is asked of a slice of bytes that is cloned: it is nil, or its first 'len' cells hold the first bytes of 'zs'. -/
def Src (w : World) (ao : Option Addr) (len cap : Nat) (zs : List Int) : Prop :=
  (ao = none ∧ len = 0 ∧ cap = 0) ∨ ∃ x, ao = some x ∧ len ≤ zs.length ∧ ∀ k, k < len → w.cell? (x.add k) = some (.int .u8 (zs.getD k 0))

theorem Src.below {w w' : World} {ao : Option Addr} {len cap : Nat} {zs : List Int} (h : Src w ao len cap zs) (hb : Below w.heap.size w w') : Src w' ao len cap zs := by
  rcases h with h | ⟨x, rfl, h1, h2⟩
  · exact .inl h
  · refine .inr ⟨x, rfl, h1, fun k hk => ?_⟩
    have := World.block_lt_of_cell? _ _ (h2 k hk)
    rw [hb.cell this]; exact h2 k hk

theorem clone_calls (ao : Option Addr) (len cap : Nat) (zs : List Int) (w : World) (hm : len ≤ 2000000) (hs : Src w ao len cap zs) :
    Calls Try.prog 13 #[.slice ao len cap] w fun e w' => ∃ ao' cap', e = .returned (.slice ao' len cap') ∧ RowB w.heap.size w' ao' len cap' (zs.take len) ∧ Below w.heap.size w w' := by
  rcases hs with ⟨rfl, rfl, rfl⟩ | ⟨x, rfl, h1, h2⟩
  · refine (clone_nil w).mono ?_
    rintro e w' ⟨rfl, rfl⟩
    exact ⟨none, 0, rfl, ⟨by simp, .inl ⟨rfl, rfl, rfl⟩⟩, Below.refl _ _⟩
  · refine (clone_some x len cap zs w hm h1 h2).mono ?_
    rintro e w' ⟨rfl, hs, hc, hb⟩
    refine ⟨_, len, rfl, ⟨by simp; omega, .inr ⟨_, rfl, Nat.le_refl _, hs, fun k hk => ?_⟩⟩, hb⟩
    rw [hc k hk]
    simp [List.getD_eq_getElem?_getD, hk]

end Go.Proofs.Qxb6602720a
