/- The walk of FnPlainStringQuotedRoundTrip. -/
import Derived.Test.Qxb6602720aStr
import Derived.Test.Qxb6602720aClone
import Derived.Test.Qxb6602720aSmall
namespace Go.Proofs.Qxb6602720a
open Go.RowKit
open Go.Proofs.Qxb6602720a.Pj

theorem zzPlainString_is (b len cap : Nat) (zs : List Int) (i : Nat) (v : Int) (ok : Bool) (w : World) (hz : zs.length = len) (hm : len ≤ 2000000) (hi : i ≤ len)
    (hc : ∀ k, k < len → w.cell? ⟨b, k, none⟩ = some (.int .u8 (zs.getD k 0))) (hp : ps zs i = (v, ok)) :
    Calls Try.prog 14 #[.slice (some ⟨b, 0, none⟩) len cap, .int .i64 i] w fun e w' => e = .returned (.tuple #[.int .i64 v, .bool ok]) ∧ w' = w := by
  refine (zzPlainString_calls b len cap zs i w hz hm hi hc).mono ?_
  rintro e w' ⟨rfl, rfl⟩
  rw [hp]; exact ⟨rfl, rfl⟩

theorem RowB.none_ {B : Nat} {w : World} {ao : Option Addr} {m c : Nat} {P : List Int} (h : RowB B w ao m c P) : ao = none → m = 0 ∧ c = 0 := by
  intro e
  rcases h.2 with ⟨_, h1, h2⟩ | ⟨g, h1, _⟩
  · exact ⟨h1, h2⟩
  · rw [e] at h1; cases h1

theorem RowB.cells {B : Nat} {w : World} {ao : Option Addr} {m c : Nat} {P : List Int} (h : RowB B w ao m c P) :
    ∀ ad, ao = some ad → ∀ j u, (P.map (Value.int .u8))[j]? = some u → w.cell? (ad.add j) = some u := by
  intro ad e j u hu
  rcases h.2 with ⟨h1, _⟩ | ⟨g, h1, _, _, h2⟩
  · rw [h1] at e; cases e
  · rw [h1] at e
    obtain rfl := Option.some.inj e
    have hj : j < m := by
      have := (List.getElem?_eq_some_iff.1 hu).1
      rw [← h.1]; simpa using this
    rw [Addr.add_lit, Nat.zero_add, h2 j hj]
    have hjP : j < P.length := by rw [h.1]; exact hj
    simp [hjP] at hu
    simp [List.getD_eq_getElem?_getD, hjP, hu]

theorem RowB.len {B : Nat} {w : World} {ao : Option Addr} {m c : Nat} {P : List Int} (h : RowB B w ao m c P) : (P.map (Value.int .u8)).length = m * 1 := by
  rw [List.length_map, h.1, Nat.mul_one]

theorem one_cell_new (w : World) (t : TypeId) (v : Value) : ∀ j u, [v][j]? = some u → (w.alloc (.cells #[v] t)).cell? ((⟨w.heap.size, 0, none⟩ : Addr).add j) = some u := by
  intro j u hj
  match j, hj with
  | 0, hj => simp at hj; subst hj; simp [Addr.add]

/-- A cell of a row of bytes that is owned. -/
theorem own_cells {w : World} {base g n cap : Nat} {zs : List Int} (h : w.ownsRow base 5 1 (.slice (some ⟨g, 0, none⟩) n cap) n (zs.map (Value.int .u8))) :
    zs.length = n ∧ ∀ k, k < n → w.cell? ⟨g, k, none⟩ = some (.int .u8 (zs.getD k 0)) := by
  have hl : zs.length = n := by have := h.1; simpa using this
  refine ⟨hl, fun k hk => ?_⟩
  rw [h.cellAt k (by omega)]
  have : k < zs.length := by omega
  simp [List.getD_eq_getElem?_getD, this]

theorem own_grown {w3 w w' : World} (hb : Below w3.heap.size w3 w) (hg : w.grownBy w' (some w3.heap.size)) : Below w3.heap.size w3 w' :=
  hb.grown hg hb.size (fun k h => by cases h; exact Nat.le_refl _)

theorem one_u8 : ∀ u ∈ [Value.int .u8 34], u.oneCell' = true := by intro u hu; simp at hu; subst hu; rfl

theorem src_at {w : World} {ao : Option Addr} {len cap : Nat} {zs : List Int} (h : Src w ao len cap zs) {k : Nat} (hk : k < len) :
    ∃ b off, ao = some ⟨b, off, none⟩ ∧ ∃ d, w.cell? ⟨b, off + k, none⟩ = some (.int .u8 d) ∧ Hid (zs.getD k 0 = d) := by
  rcases h with ⟨_, h, _⟩ | ⟨⟨b, off, spot⟩, rfl, h1, h2⟩
  · omega
  · have hs : spot = none := by simpa [Addr.add] using World.cell?_spot (h2 0 (by omega))
    subst hs
    refine ⟨b, off, rfl, _, ?_, rfl⟩
    rw [← h2 k hk, Addr.add_lit]

set_option maxHeartbeats 4000000 in
theorem lawA_walk (a0 : Option Addr) (l0 c0 : Nat) (z0 : List Int) (a1 : Option Addr) (l1 c1 : Nat) (z1 : List Int) (a2 : Option Addr) (l2 c2 : Nat) (z2 : List Int) (w : World)
    (s0 : Src w a0 l0 c0 z0) (s1 : Src w a1 l1 c1 z1) (s2 : Src w a2 l2 c2 z2) :
    Calls Try.prog 4 #[.slice a0 l0 c0, .slice a1 l1 c1, .slice a2 l2 c2] w fun e w' => e = .returned (.bool true) ∧ Below w.heap.size w w' := by
  by_cases hsum : l0 + l1 + l2 ≤ 1048576
  · have d0 : decide (1048576 < (l0 : Int)) = false := decide_eq_false (by omega)
    have d1 : decide (1048576 < (l1 : Int)) = false := decide_eq_false (by omega)
    have d2 : decide (1048576 < (l2 : Int)) = false := decide_eq_false (by omega)
    have d3 : decide (1048576 < (l0 : Int) + (l1 : Int) + (l2 : Int)) = false := decide_eq_false (by omega)
    obtain ⟨i0, hi, hz0, hz1, hz2⟩ := info_parts Try.info5
    go_enter Try.func4, Try.ntmps4
    go_wp2_with (go_at_call 16; refine (bytes16_yes _ _ _ _ _ _ _ _ _ _ hsum).mono ?_; rintro e w ⟨rfl, rfl⟩)
    go_loop [7] (fun t => ∃ k : Nat, k ≤ l1 ∧ t = .int .i64 k ∧ Hid (∀ j, j < k → z1.getD j 0 ≠ 34 ∧ plainB (z1.getD j 0) = true)) (fun t => l1 - (intOf t).toNat)
    case atStart => exact ⟨0, Nat.zero_le _, rfl, fun j hj => absurd hj (Nat.not_lt_zero _)⟩
    case round =>
      obtain ⟨k, hk, rfl, HR⟩ := hrel
      by_cases hkl : k < l1
      · obtain ⟨b, off, rfl, d, hcell, HE⟩ : ∃ b off, a1 = some ⟨b, off, none⟩ ∧ ∃ d, w.cell? ⟨b, off + k, none⟩ = some (.int .u8 d) ∧ Hid (z1.getD k 0 = d) := src_at s1 hkl
        by_cases hq : d = 34
        · subst hq
          go_wp2
          go_ret
          exact ⟨rfl, Below.refl _ _⟩
        · have hq' : (d == 34) = false := by simp [hq]
          by_cases hp : plainB d = true
          · go_wp2_with (go_at_call 17; refine (plainByte_calls _ _).mono ?_; rintro e w ⟨rfl, rfl⟩)
            go_round
            case rel => exact ⟨k + 1, by omega, by go_num, fun j hj => by
              by_cases e : j = k
              · subst e; rw [HE.out]; exact ⟨hq, hp⟩
              · exact HR.out j (by omega)⟩
            case measure => simp [intOf]; omega
          · have hp' : plainB d = false := by simpa using hp
            go_wp2_with (go_at_call 17; refine (plainByte_calls _ _).mono ?_; rintro e w ⟨rfl, rfl⟩)
            go_ret
            exact ⟨rfl, Below.refl _ _⟩
      · have HS : Hid (∀ c ∈ z1.take l1, c ≠ 34 ∧ plainB c = true) := by
          intro c hc
          obtain ⟨j, hj, rfl⟩ := List.mem_iff_getElem.1 hc
          have hjl : j < l1 ∧ j < z1.length := by simp at hj; omega
          have := HR.out j (by omega)
          simpa [List.getD_eq_getElem?_getD, hjl.2] using this
        clear HR
        go_wp2_with fail
        refine (clone_calls a0 l0 c0 z0 w (by omega) s0).mono ?_
        rintro e w1 ⟨A0, C0, rfl, r0, hb1⟩
        go_wp2_with fail
        refine (clone_calls a1 l1 c1 z1 w1 (by omega) (s1.below hb1)).mono ?_
        rintro e w2 ⟨A1, C1, rfl, r1, hb2⟩
        have hb2' : Below w.heap.size w w2 := hb1.trans (hb2.mono hb1.size)
        go_wp2_with fail
        refine (clone_calls a2 l2 c2 z2 w2 (by omega) (s2.below hb2')).mono ?_
        rintro e w3 ⟨A2, C2, rfl, r2, hb3⟩
        have hb3' : Below w.heap.size w w3 := hb2'.trans (hb3.mono hb2'.size)
        have R0 := (r0.below hb2).below hb3
        have R1 := r1.below hb3
        clear r0 r1 hb1 hb2 hb3 hb2' s0 s1 s2
        generalize z0.take l0 = P0 at *
        generalize z1.take l1 = P1 at *
        generalize z2.take l2 = P2 at *
        go_wp2_with (first
          | (at_make; refine wpList_make_own _ rfl (.const (.int .i64 0)) (.tmp 73) 22 rfl w3.heap.size 5 i0 (.int .u8 0) 1 Try.underlying22 hi hz0 hz1 .i64 .i64 _ (l0 + l1 + l2 + 2) rfl rfl (by omega) (by rw [hz2]; omega) (by unfold maxLen; omega) (Nat.le_refl _) ?_; intro w4 hown0 hgrow0; have hb4 := below_make hgrow0; clear hgrow0)
          | (at_builtin; refine wpList_append_fits_any _ rfl (.tmp 75) (.tmp 76) 22 rfl w3.heap.size 5 i0 1 Try.underlying22 hi hz1 w3.heap.size 0 (l0 + l1 + l2 + 2) _ rfl hown0 A0 l0 C0 (P0.map (Value.int .u8)) rfl R0.len R0.none_ (R0.below hb4).cells (ints_oneCell _ _) (by omega) ?_; intro w5 hown1 hgrow1; simp only [Nat.zero_add, List.nil_append] at hown1; have hb5 := own_grown hb4 hgrow1; clear hgrow1)
          | (at_builtin; refine wpList_append_fits _ rfl (.tmp 78) (.tmp 79) 22 rfl w3.heap.size 5 i0 1 Try.underlying22 hi hz1 w3.heap.size l0 (l0 + l1 + l2 + 2) _ rfl (hown1.alloc _) ⟨w5.heap.size, 0, none⟩ 1 1 [.int .u8 34] rfl rfl (one_cell_new _ _ _) one_u8 (by omega) ?_; intro w6 hown2 hgrow2; have hb6 := own_grown (hb5.alloc hb5.size _) hgrow2; clear hgrow2)
          | (at_builtin; refine wpList_append_fits_any _ rfl (.tmp 81) (.tmp 82) 22 rfl w3.heap.size 5 i0 1 Try.underlying22 hi hz1 w3.heap.size (l0 + 1) (l0 + l1 + l2 + 2) _ rfl hown2 A1 l1 C1 (P1.map (Value.int .u8)) rfl R1.len R1.none_ (R1.below hb6).cells (ints_oneCell _ _) (by omega) ?_; intro w7 hown3 hgrow3; have hb7 := own_grown hb6 hgrow3; clear hgrow3)
          | (at_builtin; refine wpList_append_fits _ rfl (.tmp 84) (.tmp 85) 22 rfl w3.heap.size 5 i0 1 Try.underlying22 hi hz1 w3.heap.size (l0 + 1 + l1) (l0 + l1 + l2 + 2) _ rfl (hown3.alloc _) ⟨w7.heap.size, 0, none⟩ 1 1 [.int .u8 34] rfl rfl (one_cell_new _ _ _) one_u8 (by omega) ?_; intro w8 hown4 hgrow4; have hb8 := own_grown (hb7.alloc hb7.size _) hgrow4; clear hgrow4)
          | (at_builtin; refine wpList_append_fits_any _ rfl (.tmp 87) (.tmp 88) 22 rfl w3.heap.size 5 i0 1 Try.underlying22 hi hz1 w3.heap.size (l0 + 1 + l1 + 1) (l0 + l1 + l2 + 2) _ rfl hown4 A2 l2 C2 (P2.map (Value.int .u8)) rfl r2.len r2.none_ (r2.below hb8).cells (ints_oneCell _ _) (by omega) ?_; intro w9 hown5 hgrow5; have hb9 := own_grown hb8 hgrow5; clear hgrow5))
        have hfin : w9.ownsRow w3.heap.size 5 1 (.slice (some ⟨w3.heap.size, 0, none⟩) (l0 + 1 + l1 + 1 + l2) (l0 + l1 + l2 + 2)) (l0 + 1 + l1 + 1 + l2) ((P0 ++ (34 :: (P1 ++ 34 :: P2))).map (Value.int .u8)) := by
          simpa [List.append_assoc] using hown5
        obtain ⟨hlen, hcells⟩ := own_cells hfin
        have hps : ps (P0 ++ (34 :: (P1 ++ 34 :: P2))) l0 = ((l0 : Int) + l1 + 2, true) := by
          have := ps_round P0 P1 P2 HS.out
          rw [R0.1, R1.1] at this; exact this
        have hfin9 : Below w.heap.size w w9 := hb3'.trans (hb9.mono hb3'.size)
        refine (zzPlainString_is w3.heap.size (l0 + 1 + l1 + 1 + l2) (l0 + l1 + l2 + 2) (P0 ++ (34 :: (P1 ++ 34 :: P2))) l0 ((l0 : Int) + l1 + 2) true w9 hlen (by omega) (by omega) hcells hps).mono ?_
        clear hlen hcells hps hfin hown0 hown1 hown2 hown3 hown4 hown5
        rintro e w10 ⟨rfl, rfl⟩
        go_wp2
        go_ret
        exact ⟨rfl, hfin9⟩
  · go_enter Try.func4, Try.ntmps4
    go_wp2_with (go_at_call 16; refine (bytes16_no _ _ _ _ _ _ _ _ _ _ (by omega)).mono ?_; rintro e w' ⟨rfl, rfl⟩)
    go_ret
    exact ⟨rfl, Below.refl _ _⟩
end Go.Proofs.Qxb6602720a
