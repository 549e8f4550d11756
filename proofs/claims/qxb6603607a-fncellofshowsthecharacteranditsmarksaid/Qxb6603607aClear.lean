/- The walk of (*grid).clear at a grid of one blank row. -/
import Derived.Test.Qxb6603607aProg
import Derived.WalkKit
import Derived.Outline
import Derived.WalkSpells
import Derived.LoopN
import Derived.BigRegion
import Derived.RegionTactic
namespace Go.Proofs.Qxb6603607a
open Go.RowKit

theorem grown_set (w : World) (L : Nat) (v : Value) : w.grownBy (w.setCell ⟨L, 0, none⟩ v).drew (some L) :=
  ⟨rfl, rfl, rfl, by show w.heap.size ≤ (w.heap.modify _ _).size; simp, fun k _ hk => by
    show (w.setCell ⟨L, 0, none⟩ v).heap[k]? = _
    exact Below.heap_setCell _ _ _ _ (fun e => hk (by rw [e]))⟩

set_option maxHeartbeats 1000000 in
theorem clear_calls (B off L : Nat) (w : World) (h1 : w.cell? ⟨B, off, none⟩ = some (.slice (some ⟨L, 0, none⟩) 1 1)) (h2 : w.cell? ⟨L, 0, none⟩ = some (.slice none 0 0)) (h3 : w.frozen? ⟨L, 0, none⟩ = false) :
    Calls Try.prog 15 #[.pointer (some ⟨B, off, none⟩)] w fun e w' => e = .returned (.tuple #[]) ∧ w.grownBy w' (some L) := by
  go_enter Try.func15, Try.ntmps15
  go_wp2
  refine wp_loop_rounds 2 ?_
  rw [rounds_succ]
  go_wp2
  go_region
  go_wp2
  rw [rounds_succ]
  go_wp2
  go_end0
  exact ⟨rfl, grown_set _ _ _⟩
end Go.Proofs.Qxb6603607a
