/- The walks of unicode/utf8.AppendRune and appendRuneNonASCII onto a nil slice. -/
import Derived.Test.Qxb6603607aProg
import Derived.WalkKit
import Derived.Outline
import Derived.WalkSpells
import Derived.Lib.RuneBytes
namespace Go.Proofs.Qxb6603607a
open Go.RowKit

theorem Try.info5 : (Try.prog.info? 5).map (fun i => (i.zero, i.size, i.bytes)) = some (some (.int .u8 0), 1, 1) := by kernel_rfl

theorem new_row (w : World) (xs : List Value) (t : TypeId) : ∀ j u, xs[j]? = some u → (w.alloc (.cells xs.toArray t)).cell? ((⟨w.heap.size, 0, none⟩ : Addr).add j) = some u := by
  intro j u hu
  rw [Addr.add_lit, Nat.zero_add]
  have hg : (w.alloc (.cells xs.toArray t)).heap[w.heap.size]? = some (.cells xs.toArray t (0, 0)) := by
    show (w.heap.push _)[w.heap.size]? = _
    rw [Array.getElem?_push_size]
  rw [cell_of_row _ w.heap.size j xs.toArray t (0, 0) hg]; simpa using hu

theorem grown_new {w w' : World} {o : Obj} (h : (w.alloc o).grownBy w' (Value.slice none 0 0).ownBlock) : Below w.heap.size w w' :=
  ((Below.refl w.heap.size w).alloc (Nat.le_refl _) o).grown h (by show w.heap.size ≤ (w.heap.push o).size; simp) (fun k e => by cases e)

theorem size_new (w : World) (o : Obj) : w.heap.size ≤ (w.alloc o).heap.size := by show w.heap.size ≤ (w.heap.push o).size; simp

theorem cells_one (zs : List Int) : ∀ u ∈ zs.map (Value.int .u8), u.oneCell' = true := ints_oneCell _ _

set_option maxHeartbeats 4000000 in
theorem nonAscii_two (r : Int) (h0 : 128 ≤ r) (h1 : r ≤ 2047) (w : World) :
    Calls Try.prog 17 #[.slice none 0 0, .int .i32 r] w fun e w' => ∃ v', e = .returned v' ∧ w'.ownsRow w.heap.size 5 1 v' 2 [.int .u8 (192 + r / 64), .int .u8 (128 + r % 64)] ∧ Below w.heap.size w w' := by
  obtain ⟨i0, hi, hz0, hz1, hz2⟩ := info_parts Try.info5
  go_enter Try.func17, Try.ntmps17
  go_wp2_with (at_builtin; refine wpList_append_own _ rfl _ _ 25 rfl w.heap.size 5 i0 (.int .u8 0) 1 1 Try.underlying25 hi hz0 hz1 hz2 rfl (by decide) _ _ _ rfl (World.ownsRow_nil _ _ _ _) ⟨w.heap.size, 0, none⟩ 2 2 [.int .u8 (192 + r / 64), .int .u8 (128 + r % 64)] rfl rfl ?c1 ?c2 ?c3 ?c4 ?c5 ?_)
  case c1 => exact new_row w [.int .u8 (192 + r / 64), .int .u8 (128 + r % 64)] 5
  case c2 => exact cells_one [192 + r / 64, 128 + r % 64]
  case c3 => unfold maxLen; omega
  case c4 => omega
  case c5 => exact size_new _ _
  intro v' w2 hown' hgrow _
  have hb := grown_new hgrow
  clear hgrow
  go_wp2
  go_ret
  exact ⟨_, rfl, hown', hb⟩

set_option maxHeartbeats 4000000 in
theorem nonAscii_lo (r : Int) (h0 : 2048 ≤ r) (h1 : r < 55296) (w : World) :
    Calls Try.prog 17 #[.slice none 0 0, .int .i32 r] w fun e w' => ∃ v', e = .returned v' ∧ w'.ownsRow w.heap.size 5 1 v' 3 [.int .u8 (224 + r / 4096), .int .u8 (128 + r / 64 % 64), .int .u8 (128 + r % 64)] ∧ Below w.heap.size w w' := by
  obtain ⟨i0, hi, hz0, hz1, hz2⟩ := info_parts Try.info5
  go_enter Try.func17, Try.ntmps17
  go_wp2_with (at_builtin; refine wpList_append_own _ rfl _ _ 25 rfl w.heap.size 5 i0 (.int .u8 0) 1 1 Try.underlying25 hi hz0 hz1 hz2 rfl (by decide) _ _ _ rfl (World.ownsRow_nil _ _ _ _) ⟨w.heap.size, 0, none⟩ 3 3 [.int .u8 (224 + r / 4096), .int .u8 (128 + r / 64 % 64), .int .u8 (128 + r % 64)] rfl rfl ?c1 ?c2 ?c3 ?c4 ?c5 ?_)
  case c1 => exact new_row w [.int .u8 (224 + r / 4096), .int .u8 (128 + r / 64 % 64), .int .u8 (128 + r % 64)] 5
  case c2 => exact cells_one [224 + r / 4096, 128 + r / 64 % 64, 128 + r % 64]
  case c3 => unfold maxLen; omega
  case c4 => omega
  case c5 => exact size_new _ _
  intro v' w2 hown' hgrow _
  have hb := grown_new hgrow
  clear hgrow
  go_wp2
  go_ret
  exact ⟨_, rfl, hown', hb⟩

set_option maxHeartbeats 4000000 in
theorem nonAscii_hi (r : Int) (h0 : 57343 < r) (h1 : r ≤ 65535) (w : World) :
    Calls Try.prog 17 #[.slice none 0 0, .int .i32 r] w fun e w' => ∃ v', e = .returned v' ∧ w'.ownsRow w.heap.size 5 1 v' 3 [.int .u8 (224 + r / 4096), .int .u8 (128 + r / 64 % 64), .int .u8 (128 + r % 64)] ∧ Below w.heap.size w w' := by
  obtain ⟨i0, hi, hz0, hz1, hz2⟩ := info_parts Try.info5
  go_enter Try.func17, Try.ntmps17
  go_wp2_with (at_builtin; refine wpList_append_own _ rfl _ _ 25 rfl w.heap.size 5 i0 (.int .u8 0) 1 1 Try.underlying25 hi hz0 hz1 hz2 rfl (by decide) _ _ _ rfl (World.ownsRow_nil _ _ _ _) ⟨w.heap.size, 0, none⟩ 3 3 [.int .u8 (224 + r / 4096), .int .u8 (128 + r / 64 % 64), .int .u8 (128 + r % 64)] rfl rfl ?c1 ?c2 ?c3 ?c4 ?c5 ?_)
  case c1 => exact new_row w [.int .u8 (224 + r / 4096), .int .u8 (128 + r / 64 % 64), .int .u8 (128 + r % 64)] 5
  case c2 => exact cells_one [224 + r / 4096, 128 + r / 64 % 64, 128 + r % 64]
  case c3 => unfold maxLen; omega
  case c4 => omega
  case c5 => exact size_new _ _
  intro v' w2 hown' hgrow _
  have hb := grown_new hgrow
  clear hgrow
  go_wp2
  go_ret
  exact ⟨_, rfl, hown', hb⟩

set_option maxHeartbeats 4000000 in
theorem nonAscii_four (r : Int) (h0 : 65536 ≤ r) (h1 : r ≤ 1114111) (w : World) :
    Calls Try.prog 17 #[.slice none 0 0, .int .i32 r] w fun e w' => ∃ v', e = .returned v' ∧ w'.ownsRow w.heap.size 5 1 v' 4 [.int .u8 (240 + r / 262144), .int .u8 (128 + r / 4096 % 64), .int .u8 (128 + r / 64 % 64), .int .u8 (128 + r % 64)] ∧ Below w.heap.size w w' := by
  obtain ⟨i0, hi, hz0, hz1, hz2⟩ := info_parts Try.info5
  go_enter Try.func17, Try.ntmps17
  go_wp2_with (at_builtin; refine wpList_append_own _ rfl _ _ 25 rfl w.heap.size 5 i0 (.int .u8 0) 1 1 Try.underlying25 hi hz0 hz1 hz2 rfl (by decide) _ _ _ rfl (World.ownsRow_nil _ _ _ _) ⟨w.heap.size, 0, none⟩ 4 4 [.int .u8 (240 + r / 262144), .int .u8 (128 + r / 4096 % 64), .int .u8 (128 + r / 64 % 64), .int .u8 (128 + r % 64)] rfl rfl ?c1 ?c2 ?c3 ?c4 ?c5 ?_)
  case c1 => exact new_row w [.int .u8 (240 + r / 262144), .int .u8 (128 + r / 4096 % 64), .int .u8 (128 + r / 64 % 64), .int .u8 (128 + r % 64)] 5
  case c2 => exact cells_one [240 + r / 262144, 128 + r / 4096 % 64, 128 + r / 64 % 64, 128 + r % 64]
  case c3 => unfold maxLen; omega
  case c4 => omega
  case c5 => exact size_new _ _
  intro v' w2 hown' hgrow _
  have hb := grown_new hgrow
  clear hgrow
  go_wp2
  go_ret
  exact ⟨_, rfl, hown', hb⟩

set_option maxHeartbeats 4000000 in
theorem nonAscii_bad (r : Int) (h0 : 55296 ≤ r) (h1 : r ≤ 57343) (w : World) :
    Calls Try.prog 17 #[.slice none 0 0, .int .i32 r] w fun e w' => ∃ v', e = .returned v' ∧ w'.ownsRow w.heap.size 5 1 v' 3 [.int .u8 (239), .int .u8 (191), .int .u8 (189)] ∧ Below w.heap.size w w' := by
  obtain ⟨i0, hi, hz0, hz1, hz2⟩ := info_parts Try.info5
  go_enter Try.func17, Try.ntmps17
  go_wp2_with (at_builtin; refine wpList_append_own _ rfl _ _ 25 rfl w.heap.size 5 i0 (.int .u8 0) 1 1 Try.underlying25 hi hz0 hz1 hz2 rfl (by decide) _ _ _ rfl (World.ownsRow_nil _ _ _ _) ⟨w.heap.size, 0, none⟩ 3 3 [.int .u8 (239), .int .u8 (191), .int .u8 (189)] rfl rfl ?c1 ?c2 ?c3 ?c4 ?c5 ?_)
  case c2 => exact ⟨rfl, rfl, rfl⟩
  case c3 => unfold maxLen; omega
  intro v' w2 hown' hgrow _
  have hb := grown_new hgrow
  clear hgrow
  go_wp2
  go_ret
  exact ⟨_, rfl, hown', hb⟩

set_option maxHeartbeats 4000000 in
theorem append_ascii (r : Int) (h0 : 0 ≤ r) (h1 : r ≤ 127) (w : World) :
    Calls Try.prog 14 #[.slice none 0 0, .int .i32 r] w fun e w' => ∃ v', e = .returned v' ∧ w'.ownsRow w.heap.size 5 1 v' 1 [.int .u8 r] ∧ Below w.heap.size w w' := by
  obtain ⟨i0, hi, hz0, hz1, hz2⟩ := info_parts Try.info5
  go_enter Try.func14, Try.ntmps14
  go_wp2_with (at_builtin; refine wpList_append_own _ rfl _ _ 25 rfl w.heap.size 5 i0 (.int .u8 0) 1 1 Try.underlying25 hi hz0 hz1 hz2 rfl (by decide) _ _ _ rfl (World.ownsRow_nil _ _ _ _) ⟨w.heap.size, 0, none⟩ 1 1 [.int .u8 r] rfl rfl ?c1 ?c2 ?c3 ?c4 ?c5 ?_)
  case c1 => exact new_row w [.int .u8 r] 5
  case c2 => exact cells_one [r]
  case c3 => unfold maxLen; omega
  case c4 => omega
  case c5 => exact size_new _ _
  intro v' w2 hown' hgrow _
  have hb := grown_new hgrow
  clear hgrow
  go_wp2
  go_ret
  exact ⟨_, rfl, hown', hb⟩

/-- utf8.AppendRune(nil, r), r a character or a surrogate half. -/
theorem appendRune_calls (r : Int) (h0 : 0 ≤ r) (h1 : r ≤ 1114111) (w : World) :
    Calls Try.prog 14 #[.slice none 0 0, .int .i32 r] w fun e w' => ∃ v', e = .returned v' ∧ w'.ownsRow w.heap.size 5 1 v' (Lib.encodeRuneZ r).length ((Lib.encodeRuneZ r).map (Value.int .u8)) ∧ Below w.heap.size w w' := by
  by_cases ha : r ≤ 127
  · rw [Lib.encodeRuneZ_one h0 ha]; exact append_ascii r h0 ha w
  rcases (show (128 ≤ r ∧ r ≤ 2047) ∨ (2048 ≤ r ∧ r < 55296) ∨ (55296 ≤ r ∧ r ≤ 57343) ∨ (57343 < r ∧ r ≤ 65535) ∨ (65536 ≤ r ∧ r ≤ 1114111) from by omega) with ⟨g0, g1⟩ | ⟨g0, g1⟩ | ⟨g0, g1⟩ | ⟨g0, g1⟩ | ⟨g0, g1⟩
  · rw [Lib.encodeRuneZ_two g0 g1]
    go_enter Try.func14, Try.ntmps14
    go_wp2_with fail
    refine (nonAscii_two r g0 g1 w).mono ?_
    rintro e w1 ⟨v', rfl, hown, hb⟩
    go_wp2
    go_ret
    exact ⟨v', rfl, hown, hb⟩
  · rw [Lib.encodeRuneZ_three (.inl ⟨g0, g1⟩)]
    go_enter Try.func14, Try.ntmps14
    go_wp2_with fail
    refine (nonAscii_lo r g0 g1 w).mono ?_
    rintro e w1 ⟨v', rfl, hown, hb⟩
    go_wp2
    go_ret
    exact ⟨v', rfl, hown, hb⟩
  · rw [Lib.encodeRuneZ_bad (.inr (.inl ⟨g0, g1⟩))]
    go_enter Try.func14, Try.ntmps14
    go_wp2_with fail
    refine (nonAscii_bad r g0 g1 w).mono ?_
    rintro e w1 ⟨v', rfl, hown, hb⟩
    go_wp2
    go_ret
    exact ⟨v', rfl, hown, hb⟩
  · rw [Lib.encodeRuneZ_three (.inr ⟨g0, g1⟩)]
    go_enter Try.func14, Try.ntmps14
    go_wp2_with fail
    refine (nonAscii_hi r g0 g1 w).mono ?_
    rintro e w1 ⟨v', rfl, hown, hb⟩
    go_wp2
    go_ret
    exact ⟨v', rfl, hown, hb⟩
  · rw [Lib.encodeRuneZ_four g0 g1]
    go_enter Try.func14, Try.ntmps14
    go_wp2_with fail
    refine (nonAscii_four r g0 g1 w).mono ?_
    rintro e w1 ⟨v', rfl, hown, hb⟩
    go_wp2
    go_ret
    exact ⟨v', rfl, hown, hb⟩

end Go.Proofs.Qxb6603607a
