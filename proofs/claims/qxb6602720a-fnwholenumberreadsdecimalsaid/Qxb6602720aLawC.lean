/- The walk of FnWholeNumberReadsDecimal. -/
import Derived.Test.Qxb6602720aNum
import Derived.Test.Qxb6602720aSmall
import Derived.Test.Qxb6602720aDec
namespace Go.Proofs.Qxb6602720a
open Go.RowKit
open Go.Proofs.Qxb6602720a.Pj

theorem zzWholeNumber_is (b len cap : Nat) (zs : List Int) (i : Nat) (v : Int) (ok : Bool) (w : World) (hz : zs.length = len) (hm : len ≤ 2000000) (hi : i < len)
    (hc : ∀ k, k < len → w.cell? ⟨b, k, none⟩ = some (.int .u8 (zs.getD k 0))) (hp : wn zs i = (v, ok)) :
    Calls Try.prog 20 #[.slice (some ⟨b, 0, none⟩) len cap, .int .i64 i] w fun e w' => e = .returned (.tuple #[.int .i64 v, .bool ok]) ∧ w' = w := by
  refine (zzWholeNumber_calls b len cap zs i w hz hm hi hc).mono ?_
  rintro e w' ⟨rfl, rfl⟩
  rw [hp]; exact ⟨rfl, rfl⟩

theorem src_first {w : World} {ao : Option Addr} {len cap : Nat} {zs : List Int} (h : Src w ao len cap zs) (hk : 0 < len) :
    ∃ b off, ao = some ⟨b, off, none⟩ ∧ ∃ d, w.cell? ⟨b, off, none⟩ = some (.int .u8 d) ∧ Hid (zs.getD 0 0 = d) := by
  rcases h with ⟨_, h, _⟩ | ⟨⟨b, off, spot⟩, rfl, h1, h2⟩
  · omega
  · have hs : spot = none := by simpa [Addr.add] using World.cell?_spot (h2 0 (by omega))
    subst hs
    refine ⟨b, off, rfl, _, ?_, rfl⟩
    rw [← h2 0 hk, Addr.add_lit, Nat.add_zero]

theorem RowB.at_ {B : Nat} {w : World} {g len cap : Nat} {zs : List Int} (h : RowB B w (some ⟨g, 0, none⟩) len cap zs) :
    ∀ k, k < len → w.cell? ⟨g, k, none⟩ = some (.int .u8 (zs.getD k 0)) := by
  rcases h.2 with ⟨h1, _⟩ | ⟨g', h1, _, _, h2⟩
  · cases h1
  · simp only [Option.some.injEq, Addr.mk.injEq, and_true] at h1
    subst h1; exact h2

theorem isDec_len {D : List Int} (h : IsDec D) : 0 < D.length ∧ D.length ≤ 21 := by
  obtain ⟨x, ds, hw, _, _, hl⟩ := h
  rcases hw with rfl | rfl <;> simp <;> omega

set_option maxHeartbeats 4000000 in
theorem lawC_walk (a0 : Option Addr) (l0 c0 : Nat) (z0 : List Int) (n : Int) (a2 : Option Addr) (l2 c2 : Nat) (z2 : List Int) (w : World)
    (s0 : Src w a0 l0 c0 z0) (hn : (Lit.int .i64 n).wf = true) (s2 : Src w a2 l2 c2 z2) :
    Calls Try.prog 7 #[.slice a0 l0 c0, .int .i64 n, .slice a2 l2 c2] w fun e w' => e = .returned (.bool true) ∧ Below w.heap.size w w' := by
  by_cases hsum : l0 + l2 ≤ 1048576
  case neg =>
    clear hn
    go_enter Try.func7, Try.ntmps7
    go_wp2_with (go_at_call 22; refine (bytes22_no _ _ _ _ _ _ _ _ (by omega)).mono ?_; rintro e w' ⟨rfl, rfl⟩)
    go_ret
    exact ⟨rfl, Below.refl _ _⟩
  case pos =>
    have HN : Hid ((Lit.int .i64 n).wf = true) := hn
    clear hn
    have d0 : decide (1048576 < (l0 : Int)) = false := decide_eq_false (by omega)
    have d1 : decide (1048576 < (l2 : Int)) = false := decide_eq_false (by omega)
    have d3 : decide (1048576 < (l0 : Int) + (l2 : Int)) = false := decide_eq_false (by omega)
    have hways : (l2 = 0) ∨ (0 < l2 ∧ ∃ b off, a2 = some ⟨b, off, none⟩ ∧ ∃ d, w.cell? ⟨b, off, none⟩ = some (.int .u8 d) ∧ Hid (z2.getD 0 0 = d)) := by
      by_cases h : l2 = 0
      · exact .inl h
      · exact .inr ⟨by omega, src_first s2 (by omega)⟩
    rcases hways with h0 | ⟨h0, b, off, rfl, d, hcell, HE⟩
    · have hd0 : decide (0 < (l2 : Int)) = false := decide_eq_false (by omega)
      have HQ : Hid (∀ q r, z2.take l2 = q :: r → digB q = false) := by
        intro q r h; rw [h0] at h; cases h
      have hl2 : ¬ 0 < l2 := by omega
      clear h0
      go_enter Try.func7, Try.ntmps7
      go_wp2_with (go_at_call 22; refine (bytes22_yes _ _ _ _ _ _ _ _ hsum).mono ?_; rintro e w ⟨rfl, rfl⟩)
      refine (clone_calls a0 l0 c0 z0 w (by omega) s0).mono ?_
      rintro e w1 ⟨A0, C0, rfl, r0, hb1⟩
      go_wp2_with fail
      refine (clone_calls a2 l2 c2 z2 w1 (by omega) (s2.below hb1)).mono ?_
      rintro e w2 ⟨A2, C2, rfl, r2, hb2⟩
      have hb2' : Below w.heap.size w w2 := hb1.trans (hb2.mono hb1.size)
      have r0' := r0.below hb2
      clear r0 s0 s2 hb1 hb2
      generalize z0.take l0 = P0 at *
      generalize z2.take l2 = P2 at *
      go_wp2_with fail
      refine (decimal_calls n w2 HN.out).mono ?_
      rintro e w3 ⟨D, g, rfl, hdec, rd, hb3⟩
      have hdl := isDec_len hdec
      have hb3' : Below w.heap.size w w3 := hb2'.trans (hb3.mono hb2'.size)
      have q0 := r0'.below hb3
      have q2 := r2.below hb3
      clear r0' r2 hb3 hb2'
      go_wp2_with fail
      refine (cat_calls A0 l0 C0 P0 (some ⟨g, 0, none⟩) D.length 21 D w3 q0.1 rfl (by omega) q0.src rd.src).mono ?_
      rintro e w4 ⟨rfl, rc, hb4⟩
      have hb4' : Below w.heap.size w w4 := hb3'.trans (hb4.mono hb3'.size)
      have q2' := q2.below hb4
      go_wp2_with fail
      refine (cat_calls (some ⟨w3.heap.size, 0, none⟩) (l0 + D.length) (l0 + D.length) (P0 ++ D) A2 l2 C2 P2 w4 rc.1 q2'.1 (by omega) rc.src q2'.src).mono ?_
      rintro e w5 ⟨rfl, rf, hb5⟩
      have hb5' : Below w.heap.size w w5 := hb4'.trans (hb5.mono hb4'.size)
      have hps : wn ((P0 ++ D) ++ P2) l0 = ((l0 : Int) + (D.length : Int), true) := by
        have := wn_dec P0 D P2 hdec HQ.out
        rw [q0.1] at this; exact this
      have HPS : Hid (wn ((P0 ++ D) ++ P2) l0 = ((l0 : Int) + (D.length : Int), true)) := hps
      clear hps rc q0 q2 q2' hb4 hb5 hb4' hb3' rd
      go_wp2_with fail
      refine (zzWholeNumber_is w4.heap.size (l0 + D.length + l2) (l0 + D.length + l2) ((P0 ++ D) ++ P2) l0 ((l0 : Int) + (D.length : Int)) true w5 rf.1 (by omega) (by omega) rf.at_ HPS.out).mono ?_
      rintro e w6 ⟨rfl, rfl⟩
      go_wp2
      go_ret
      exact ⟨rfl, hb5'⟩
    · by_cases hdig : digB d = true
      · have hd0 : decide (0 < (l2 : Int)) = true := decide_eq_true (by omega)
        go_enter Try.func7, Try.ntmps7
        go_wp2_with (first | (go_at_call 22; refine (bytes22_yes _ _ _ _ _ _ _ _ hsum).mono ?_; rintro e w ⟨rfl, rfl⟩) | (go_at_call 23; refine (isDigit_calls _ _).mono ?_; rintro e w ⟨rfl, rfl⟩))
        go_ret
        exact ⟨rfl, Below.refl _ _⟩
      · have hdig' : digB d = false := by simpa using hdig
        have hd0 : decide (0 < (l2 : Int)) = true := decide_eq_true (by omega)
        have HQ : Hid (∀ q r, z2.take l2 = q :: r → digB q = false) := by
          intro q r h
          cases z2 with
          | nil => simp at h
          | cons x xs =>
            obtain ⟨m, rfl⟩ : ∃ m, l2 = m + 1 := ⟨l2 - 1, by omega⟩
            simp at h
            have hd : x = d := HE.out
            rw [← h.1, hd]; exact hdig'
        clear hdig
        go_enter Try.func7, Try.ntmps7
        go_wp2_with (first | (go_at_call 22; refine (bytes22_yes _ _ _ _ _ _ _ _ hsum).mono ?_; rintro e w ⟨rfl, rfl⟩) | (go_at_call 23; refine (isDigit_calls _ _).mono ?_; rintro e w ⟨rfl, rfl⟩))
        refine (clone_calls a0 l0 c0 z0 w (by omega) s0).mono ?_
        rintro e w1 ⟨A0, C0, rfl, r0, hb1⟩
        go_wp2_with fail
        refine (clone_calls (some ⟨b, off, none⟩) l2 c2 z2 w1 (by omega) (s2.below hb1)).mono ?_
        rintro e w2 ⟨A2, C2, rfl, r2, hb2⟩
        have hb2' : Below w.heap.size w w2 := hb1.trans (hb2.mono hb1.size)
        have r0' := r0.below hb2
        clear r0 s0 s2 hb1 hb2
        generalize z0.take l0 = P0 at *
        generalize z2.take l2 = P2 at *
        go_wp2_with fail
        refine (decimal_calls n w2 HN.out).mono ?_
        rintro e w3 ⟨D, g, rfl, hdec, rd, hb3⟩
        have hdl := isDec_len hdec
        have hb3' : Below w.heap.size w w3 := hb2'.trans (hb3.mono hb2'.size)
        have q0 := r0'.below hb3
        have q2 := r2.below hb3
        clear r0' r2 hb3 hb2'
        go_wp2_with fail
        refine (cat_calls A0 l0 C0 P0 (some ⟨g, 0, none⟩) D.length 21 D w3 q0.1 rfl (by omega) q0.src rd.src).mono ?_
        rintro e w4 ⟨rfl, rc, hb4⟩
        have hb4' : Below w.heap.size w w4 := hb3'.trans (hb4.mono hb3'.size)
        have q2' := q2.below hb4
        go_wp2_with fail
        refine (cat_calls (some ⟨w3.heap.size, 0, none⟩) (l0 + D.length) (l0 + D.length) (P0 ++ D) A2 l2 C2 P2 w4 rc.1 q2'.1 (by omega) rc.src q2'.src).mono ?_
        rintro e w5 ⟨rfl, rf, hb5⟩
        have hb5' : Below w.heap.size w w5 := hb4'.trans (hb5.mono hb4'.size)
        have hps : wn ((P0 ++ D) ++ P2) l0 = ((l0 : Int) + (D.length : Int), true) := by
          have := wn_dec P0 D P2 hdec HQ.out
          rw [q0.1] at this; exact this
        have HPS : Hid (wn ((P0 ++ D) ++ P2) l0 = ((l0 : Int) + (D.length : Int), true)) := hps
        clear hps rc q0 q2 q2' hb4 hb5 hb4' hb3' rd
        go_wp2_with fail
        refine (zzWholeNumber_is w4.heap.size (l0 + D.length + l2) (l0 + D.length + l2) ((P0 ++ D) ++ P2) l0 ((l0 : Int) + (D.length : Int)) true w5 rf.1 (by omega) (by omega) rf.at_ HPS.out).mono ?_
        rintro e w6 ⟨rfl, rfl⟩
        go_wp2
        go_ret
        exact ⟨rfl, hb5'⟩

end Go.Proofs.Qxb6602720a
