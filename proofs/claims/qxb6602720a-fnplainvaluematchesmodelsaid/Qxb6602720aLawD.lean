/- The walk of FnPlainValueMatchesModel. -/
import Derived.Test.Qxb6602720aVal
import Derived.Test.Qxb6602720aValM
namespace Go.Proofs.Qxb6602720a
open Go.RowKit
open Go.Proofs.Qxb6602720a.Pj

theorem plainValue_calls (b len cap : Nat) (zs : List Int) (i : Nat) (w : World) (hz : zs.length = len) (hm : len ≤ 2000000) (hcap : len ≤ cap) (hi : i < len)
    (hc : ∀ k, k < len → w.cell? ⟨b, k, none⟩ = some (.int .u8 (zs.getD k 0))) (hby : ∀ k, k < len → 0 ≤ zs.getD k 0 ∧ zs.getD k 0 ≤ 255) :
    Calls Try.prog 34 #[.slice (some ⟨b, 0, none⟩) len cap, .int .i64 i] w fun e w' => e = .returned (.tuple #[.int .i64 (pv zs i).1, .bool (pv zs i).2]) ∧ Below w.heap.size w w' := by
  obtain ⟨c, hcc⟩ : ∃ c, zs.getD i 0 = c := ⟨_, rfl⟩
  by_cases h34 : c = 34
  · exact plainValue_str b len cap zs i w hz hm hi hc (hcc.trans h34)
  · by_cases hn : c = 45 ∨ digB c = true
    · exact plainValue_num b len cap zs i c w hz hm hi hc hcc h34 hn
    · exact plainValue_word b len cap zs i c w hz hm hcap hi hc hby hcc h34 hn

theorem zzPlainValue_end (ao : Option Addr) (len cap : Nat) (w : World) :
    Calls Try.prog 28 #[.slice ao len cap, .int .i64 len] w fun e w' => e = .returned (.tuple #[.int .i64 0, .bool false]) ∧ Below w.heap.size w w' := by
  go_enter Try.func28, Try.ntmps28
  go_wp2_with (go_at_call 34; refine (plainValue_end ao len cap w).mono ?_; rintro e w1 ⟨rfl, hb1⟩)
  go_ret2
  exact ⟨rfl, hb1⟩

theorem zzPlainValue_calls (b len cap : Nat) (zs : List Int) (i : Nat) (w : World) (hz : zs.length = len) (hm : len ≤ 2000000) (hcap : len ≤ cap) (hi : i < len)
    (hc : ∀ k, k < len → w.cell? ⟨b, k, none⟩ = some (.int .u8 (zs.getD k 0))) (hby : ∀ k, k < len → 0 ≤ zs.getD k 0 ∧ zs.getD k 0 ≤ 255) :
    Calls Try.prog 28 #[.slice (some ⟨b, 0, none⟩) len cap, .int .i64 i] w fun e w' => e = .returned (.tuple #[.int .i64 (pv zs i).1, .bool (pv zs i).2]) ∧ Below w.heap.size w w' := by
  have HC : Hid (∀ k, k < len → w.cell? ⟨b, k, none⟩ = some (.int .u8 (zs.getD k 0))) := hc
  have HB : Hid (∀ k, k < len → 0 ≤ zs.getD k 0 ∧ zs.getD k 0 ≤ 255) := hby
  have HZ : Hid (zs.length = len) := hz
  clear hc hz hby
  go_enter Try.func28, Try.ntmps28
  go_wp2_with (go_at_call 34; refine (plainValue_calls b len cap zs i w HZ.out hm hcap hi HC.out HB.out).mono ?_; rintro e w1 ⟨rfl, hb1⟩)
  go_ret2
  exact ⟨rfl, hb1⟩

/-- cloneJB1 once more, its capacity told. -/
theorem clone_calls2 (ao : Option Addr) (len cap : Nat) (zs : List Int) (w : World) (hm : len ≤ 2000000) (hs : Src w ao len cap zs) :
    Calls Try.prog 13 #[.slice ao len cap] w fun e w' => ∃ ao' cap', e = .returned (.slice ao' len cap') ∧ RowB w.heap.size w' ao' len cap' (zs.take len) ∧ len ≤ cap' ∧ Below w.heap.size w w' := by
  rcases hs with ⟨rfl, rfl, rfl⟩ | ⟨x, rfl, h1, h2⟩
  · refine (clone_nil w).mono ?_
    rintro e w' ⟨rfl, rfl⟩
    exact ⟨none, 0, rfl, ⟨by simp, .inl ⟨rfl, rfl, rfl⟩⟩, Nat.le_refl _, Below.refl _ _⟩
  · refine (clone_some x len cap zs w hm h1 h2).mono ?_
    rintro e w' ⟨rfl, hs, hc, hb⟩
    refine ⟨_, len, rfl, ⟨by simp; omega, .inr ⟨_, rfl, Nat.le_refl _, hs, fun k hk => ?_⟩⟩, Nat.le_refl _, hb⟩
    rw [hc k hk]
    simp [List.getD_eq_getElem?_getD, hk]

theorem row_some {B : Nat} {w : World} {ao : Option Addr} {len cap : Nat} {zs : List Int} (h : RowB B w ao len cap zs) (h0 : 0 < len) :
    ∃ g, ao = some ⟨g, 0, none⟩ ∧ g < w.heap.size ∧ ∀ k, k < len → w.cell? ⟨g, k, none⟩ = some (.int .u8 (zs.getD k 0)) := by
  rcases h.2 with ⟨_, h1, _⟩ | ⟨g, h1, _, h3, h2⟩
  · omega
  · exact ⟨g, h1, h3, h2⟩

theorem below_drewN {B : Nat} {a w : World} (h : Below B a w) (n : Nat) : Below B a (w.drewN n) := h.trans ⟨rfl, rfl, rfl, Nat.le_refl _, fun _ _ => rfl⟩

set_option maxHeartbeats 4000000 in
theorem lawD_walk (a0 : Option Addr) (l0 c0 : Nat) (z0 : List Int) (i : Int) (w : World) (s0 : Src w a0 l0 c0 z0) (hby : ∀ n ∈ z0, 0 ≤ n ∧ n ≤ 255) :
    Calls Try.prog 9 #[.slice a0 l0 c0, .int .i64 i] w fun e w' => e = .returned (.bool true) ∧ Below w.heap.size w w' := by
  have HBY : Hid (∀ n ∈ z0, 0 ≤ n ∧ n ≤ 255) := hby
  clear hby
  by_cases hl : l0 ≤ 1048576
  case neg =>
    go_enter Try.func9, Try.ntmps9
    go_wp2_with (go_at_call 27; refine (bytes27_no _ _ _ _ _ (by omega)).mono ?_; rintro e w' ⟨rfl, rfl⟩)
    go_ret
    exact ⟨rfl, Below.refl _ _⟩
  case pos =>
    by_cases hneg : i < 0
    · go_enter Try.func9, Try.ntmps9
      go_wp2_with (go_at_call 27; refine (bytes27_yes _ _ _ _ _ hl).mono ?_; rintro e w' ⟨rfl, rfl⟩)
      go_ret
      exact ⟨rfl, Below.refl _ _⟩
    · obtain ⟨n, rfl⟩ := Int.eq_ofNat_of_zero_le (by omega : 0 ≤ i)
      rcases (show n < l0 ∨ n = l0 ∨ l0 < n from by omega) with hn | hn | hn
      · go_enter Try.func9, Try.ntmps9
        go_wp2_with (go_at_call 27; refine (bytes27_yes _ _ _ _ _ hl).mono ?_; rintro e w ⟨rfl, rfl⟩)
        refine (clone_calls2 a0 l0 c0 z0 w (by omega) s0).mono ?_
        rintro e w1 ⟨A0, C0, rfl, r0, hcap, hb1⟩
        obtain ⟨g, rfl, hg, hc⟩ := row_some r0 (by omega)
        have HL : Hid ((z0.take l0).length = l0) := r0.1
        have HC : Hid (∀ k, k < l0 → w1.cell? ⟨g, k, none⟩ = some (.int .u8 ((z0.take l0).getD k 0))) := hc
        have HB : Hid (∀ k, k < l0 → 0 ≤ (z0.take l0).getD k 0 ∧ (z0.take l0).getD k 0 ≤ 255) := by
          intro k hk
          have hk' : k < (z0.take l0).length := by rw [HL.out]; exact hk
          rw [List.getD_eq_getElem?_getD, List.getElem?_eq_getElem hk']
          exact HBY.out _ (List.mem_of_mem_take (List.getElem_mem hk'))
        clear hc r0 s0 HBY
        generalize z0.take l0 = P0 at *
        go_wp2_with fail
        refine (zzPlainValue_calls g l0 C0 P0 n w1 HL.out (by omega) hcap hn HC.out HB.out).mono ?_
        rintro e w2 ⟨rfl, hb2⟩
        have HC2 : Hid (∀ k, k < l0 → w2.cell? ⟨g, k, none⟩ = some (.int .u8 (P0.getD k 0))) := by
          intro k hk; rw [hb2.cell (p := ⟨g, k, none⟩) hg]; exact HC.out k hk
        have hb2' : Below w.heap.size w w2 := hb1.trans (hb2.mono hb1.size)
        go_wp2_with fail
        refine (modelValue_calls g l0 C0 P0 n w2 HL.out (by omega) hn HC2.out).mono ?_
        rintro e w3 ⟨rfl, m, rfl⟩
        go_wp2
        go_ret
        exact ⟨rfl, below_drewN hb2' m⟩
      · subst hn
        go_enter Try.func9, Try.ntmps9
        go_wp2_with (go_at_call 27; refine (bytes27_yes _ _ _ _ _ hl).mono ?_; rintro e w ⟨rfl, rfl⟩)
        refine (clone_calls2 a0 n c0 z0 w (by omega) s0).mono ?_
        rintro e w1 ⟨A0, C0, rfl, r0, hcap, hb1⟩
        clear r0 s0 HBY
        go_wp2_with fail
        refine (zzPlainValue_end A0 n C0 w1).mono ?_
        rintro e w2 ⟨rfl, hb2⟩
        have hb2' : Below w.heap.size w w2 := hb1.trans (hb2.mono hb1.size)
        go_wp2_with fail
        refine (modelValue_end A0 n C0 w2).mono ?_
        rintro e w3 ⟨rfl, m, rfl⟩
        go_wp2
        go_ret
        exact ⟨rfl, below_drewN hb2' m⟩
      · go_enter Try.func9, Try.ntmps9
        go_wp2_with (go_at_call 27; refine (bytes27_yes _ _ _ _ _ hl).mono ?_; rintro e w' ⟨rfl, rfl⟩)
        go_ret
        exact ⟨rfl, Below.refl _ _⟩

end Go.Proofs.Qxb6602720a
