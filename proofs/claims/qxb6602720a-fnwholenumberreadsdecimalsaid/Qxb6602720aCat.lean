/- The walk of catJB1: two rows, one behind the other, in a new one. -/
import Derived.Test.Qxb6602720aClone
namespace Go.Proofs.Qxb6602720a
open Go.RowKit

theorem RowB.src {B : Nat} {w : World} {ao : Option Addr} {len cap : Nat} {zs : List Int} (h : RowB B w ao len cap zs) : Src w ao len cap zs := by
  rcases h.2 with h' | ⟨g, rfl, _, _, h2⟩
  · exact .inl h'
  · refine .inr ⟨_, rfl, by rw [h.1]; exact Nat.le_refl _, fun k hk => ?_⟩
    rw [Addr.add_lit, Nat.zero_add]; exact h2 k hk

theorem Src.none_ {w : World} {ao : Option Addr} {m c : Nat} {P : List Int} (h : Src w ao m c P) : ao = none → m = 0 ∧ c = 0 := by
  intro e
  rcases h with ⟨_, h1, h2⟩ | ⟨x, h1, _⟩
  · exact ⟨h1, h2⟩
  · rw [e] at h1; cases h1

theorem Src.cells {w : World} {ao : Option Addr} {m c : Nat} {P : List Int} (h : Src w ao m c P) :
    ∀ ad, ao = some ad → ∀ j u, ((P.take m).map (Value.int .u8))[j]? = some u → w.cell? (ad.add j) = some u := by
  intro ad e j u hu
  rcases h with ⟨h1, _⟩ | ⟨x, h1, hl, h2⟩
  · rw [h1] at e; cases e
  · rw [h1] at e
    obtain rfl := Option.some.inj e
    have hj : j < m := by
      have := (List.getElem?_eq_some_iff.1 hu).1
      simp at this; omega
    rw [h2 j hj]
    have hjP : j < P.length := by omega
    simp [hj, hjP] at hu
    simp [List.getD_eq_getElem?_getD, hjP, hu]

theorem own_grownC {w3 w w' : World} (hb : Below w3.heap.size w3 w) (hg : w.grownBy w' (some w3.heap.size)) : Below w3.heap.size w3 w' :=
  hb.grown hg hb.size (fun k h => by cases h; exact Nat.le_refl _)

theorem own_row {w : World} {g n cap : Nat} {zs : List Int} (h : w.ownsRow g 5 1 (.slice (some ⟨g, 0, none⟩) n cap) n (zs.map (Value.int .u8))) :
    RowB g w (some ⟨g, 0, none⟩) n cap zs := by
  have hl : zs.length = n := by have := h.1; simpa using this
  have hg : g < w.heap.size := by
    obtain ⟨cur, HB, _⟩ := own_block h
    exact (Array.getElem?_eq_some_iff.1 HB.out).1
  refine ⟨hl, .inr ⟨g, rfl, Nat.le_refl _, hg, fun k hk => ?_⟩⟩
  rw [h.cellAt k (by omega)]
  have : k < zs.length := by omega
  simp [List.getD_eq_getElem?_getD, this]

set_option maxHeartbeats 1000000 in
theorem cat_calls (ao : Option Addr) (la ca : Nat) (P : List Int) (bo : Option Addr) (lb cb : Nat) (Q : List Int) (w : World) (hP : P.length = la) (hQ : Q.length = lb) (hm : la + lb ≤ 4000000)
    (sP : Src w ao la ca P) (sQ : Src w bo lb cb Q) :
    Calls Try.prog 25 #[.slice ao la ca, .slice bo lb cb] w fun e w' => e = .returned (.slice (some ⟨w.heap.size, 0, none⟩) (la + lb) (la + lb)) ∧
      RowB w.heap.size w' (some ⟨w.heap.size, 0, none⟩) (la + lb) (la + lb) (P ++ Q) ∧ Below w.heap.size w w' := by
  obtain ⟨i0, hi, hz0, hz1, hz2⟩ := info_parts Try.info5
  have HP : Hid ((P.take la).map (Value.int .u8) = P.map (Value.int .u8)) := by rw [← hP, List.take_length]; rfl
  have HQ : Hid ((Q.take lb).map (Value.int .u8) = Q.map (Value.int .u8)) := by rw [← hQ, List.take_length]; rfl
  have LP : Hid (((P.take la).map (Value.int .u8)).length = la * 1) := by rw [HP.out]; simp [Hid, hP]
  have LQ : Hid (((Q.take lb).map (Value.int .u8)).length = lb * 1) := by rw [HQ.out]; simp [Hid, hQ]
  clear hP hQ
  go_enter Try.func25, Try.ntmps25
  go_wp2_with (first
    | (at_make; refine wpList_make_own _ rfl (.const (.int .i64 0)) (.tmp 10) 22 rfl w.heap.size 5 i0 (.int .u8 0) 1 Try.underlying22 hi hz0 hz1 .i64 .i64 _ (la + lb) rfl rfl (by omega) (by rw [hz2]; omega) (by unfold maxLen; omega) (Nat.le_refl _) ?_; intro w4 hown0 hgrow0; have hb4 := below_make hgrow0; clear hgrow0)
    | (at_builtin; refine wpList_append_fits_any _ rfl (.tmp 12) (.tmp 13) 22 rfl w.heap.size 5 i0 1 Try.underlying22 hi hz1 w.heap.size 0 (la + lb) _ rfl hown0 ao la ca ((P.take la).map (Value.int .u8)) rfl LP.out sP.none_ (sP.below hb4).cells (ints_oneCell _ _) (by omega) ?_; intro w5 hown1 hgrow1; simp only [Nat.zero_add, List.nil_append] at hown1; have hb5 := own_grownC hb4 hgrow1; clear hgrow1)
    | (at_builtin; refine wpList_append_fits_any _ rfl (.tmp 15) (.tmp 16) 22 rfl w.heap.size 5 i0 1 Try.underlying22 hi hz1 w.heap.size la (la + lb) _ rfl hown1 bo lb cb ((Q.take lb).map (Value.int .u8)) rfl LQ.out sQ.none_ (sQ.below hb5).cells (ints_oneCell _ _) (by omega) ?_; intro w6 hown2 hgrow2; have hb6 := own_grownC hb5 hgrow2; clear hgrow2))
  rw [HP.out, HQ.out, ← List.map_append] at hown2
  have hrow := own_row hown2
  go_ret
  exact ⟨rfl, hrow, hb6⟩

end Go.Proofs.Qxb6602720a
