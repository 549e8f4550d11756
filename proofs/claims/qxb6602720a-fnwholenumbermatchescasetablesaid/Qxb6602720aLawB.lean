/- The walk of FnWholeNumberMatchesCaseTable. -/
import Derived.Test.Qxb6602720aModW
import Derived.Test.Qxb6602720aClone
namespace Go.Proofs.Qxb6602720a
open Go.RowKit
open Go.Proofs.Qxb6602720a.Pj

theorem RowB.some_ {B : Nat} {w : World} {ao : Option Addr} {len cap : Nat} {zs : List Int} (h : RowB B w ao len cap zs) (h0 : 0 < len) :
    ∃ g, ao = some ⟨g, 0, none⟩ ∧ ∀ k, k < len → w.cell? ⟨g, k, none⟩ = some (.int .u8 (zs.getD k 0)) := by
  rcases h.2 with ⟨_, h1, _⟩ | ⟨g, h1, _, _, h2⟩
  · omega
  · exact ⟨g, h1, h2⟩

set_option maxHeartbeats 4000000 in
theorem lawB_walk (a0 : Option Addr) (l0 c0 : Nat) (z0 : List Int) (i : Int) (w : World) (s0 : Src w a0 l0 c0 z0) :
    Calls Try.prog 6 #[.slice a0 l0 c0, .int .i64 i] w fun e w' => e = .returned (.bool true) ∧ Below w.heap.size w w' := by
  by_cases hl : l0 ≤ 1048576
  case neg =>
    go_enter Try.func6, Try.ntmps6
    go_wp2_with (go_at_call 19; refine (bytes19_no _ _ _ _ _ (by omega)).mono ?_; rintro e w' ⟨rfl, rfl⟩)
    go_ret
    exact ⟨rfl, Below.refl _ _⟩
  case pos =>
    by_cases hneg : i < 0
    · go_enter Try.func6, Try.ntmps6
      go_wp2_with (go_at_call 19; refine (bytes19_yes _ _ _ _ _ hl).mono ?_; rintro e w' ⟨rfl, rfl⟩)
      go_ret
      exact ⟨rfl, Below.refl _ _⟩
    · obtain ⟨n, rfl⟩ := Int.eq_ofNat_of_zero_le (by omega : 0 ≤ i)
      by_cases hn : n < l0
      · go_enter Try.func6, Try.ntmps6
        go_wp2_with (go_at_call 19; refine (bytes19_yes _ _ _ _ _ hl).mono ?_; rintro e w ⟨rfl, rfl⟩)
        refine (clone_calls a0 l0 c0 z0 w (by omega) s0).mono ?_
        rintro e w1 ⟨A0, C0, rfl, r0, hb1⟩
        obtain ⟨g, rfl, hc⟩ := r0.some_ (by omega)
        have HL : Hid ((z0.take l0).length = l0) := r0.1
        have HC : Hid (∀ k, k < l0 → w1.cell? ⟨g, k, none⟩ = some (.int .u8 ((z0.take l0).getD k 0))) := hc
        clear hc r0 s0
        generalize z0.take l0 = P0 at *
        go_wp2_with fail
        refine (zzWholeNumber_calls g l0 C0 P0 n w1 HL.out (by omega) hn HC.out).mono ?_
        rintro e w2 ⟨rfl, rfl⟩
        go_wp2_with fail
        refine (modelWhole_calls g l0 C0 P0 n _ HL.out (by omega) hn HC.out).mono ?_
        rintro e w3 ⟨rfl, rfl⟩
        go_wp2
        go_ret
        exact ⟨rfl, hb1⟩
      · go_enter Try.func6, Try.ntmps6
        go_wp2_with (go_at_call 19; refine (bytes19_yes _ _ _ _ _ hl).mono ?_; rintro e w' ⟨rfl, rfl⟩)
        go_ret
        exact ⟨rfl, Below.refl _ _⟩

end Go.Proofs.Qxb6602720a
