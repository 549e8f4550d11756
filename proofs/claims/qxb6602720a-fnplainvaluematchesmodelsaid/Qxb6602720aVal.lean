/- The walk of jsonobj.plainValue and its door: it computes 'pv'. -/
import Derived.Test.Qxb6602720aValP
import Derived.Test.Qxb6602720aNum
import Derived.Test.Qxb6602720aClone
import Derived.Laws.BytesArg
import Derived.LoopN
namespace Go.Proofs.Qxb6602720a
open Go.RowKit
open Go.Proofs.Qxb6602720a.Pj

theorem plainValue_end (ao : Option Addr) (len cap : Nat) (w : World) :
    Calls Try.prog 34 #[.slice ao len cap, .int .i64 len] w fun e w' => e = .returned (.tuple #[.int .i64 0, .bool false]) ∧ Below w.heap.size w w' := by
  have hb : ((len : Int) == (len : Int)) = true := by simp
  go_enter Try.func34, Try.ntmps34
  go_wp2
  go_ret2
  exact ⟨rfl, Below.refl _ _⟩

theorem plainValue_str (b len cap : Nat) (zs : List Int) (i : Nat) (w : World) (hz : zs.length = len) (hm : len ≤ 2000000) (hi : i < len)
    (hc : ∀ k, k < len → w.cell? ⟨b, k, none⟩ = some (.int .u8 (zs.getD k 0))) (h34 : zs.getD i 0 = 34) :
    Calls Try.prog 34 #[.slice (some ⟨b, 0, none⟩) len cap, .int .i64 i] w fun e w' => e = .returned (.tuple #[.int .i64 (pv zs i).1, .bool (pv zs i).2]) ∧ Below w.heap.size w w' := by
  have HF : Hid (pv zs i = ps zs i) := pv_str zs i (by omega) h34
  have hcell := hc i hi
  rw [h34] at hcell
  have HZ : Hid (zs.length = len) := hz
  have HC : Hid (∀ k, k < len → w.cell? ⟨b, k, none⟩ = some (.int .u8 (zs.getD k 0))) := hc
  have hb : ((i : Int) == (len : Int)) = false := beq_eq_false_iff_ne.2 (by omega)
  clear hc hz h34
  go_enter Try.func34, Try.ntmps34
  go_wp2_with (go_at_call 32; refine (plainString_calls b len cap zs i _ HZ.out hm (by omega) HC.out).mono ?_; rintro e w ⟨rfl, rfl⟩)
  go_ret2
  exact ⟨ret2 (by rw [HF.out]) (by rw [HF.out]), Below.refl _ _⟩

theorem plainValue_num (b len cap : Nat) (zs : List Int) (i : Nat) (c : Int) (w : World) (hz : zs.length = len) (hm : len ≤ 2000000) (hi : i < len)
    (hc : ∀ k, k < len → w.cell? ⟨b, k, none⟩ = some (.int .u8 (zs.getD k 0))) (hcc : zs.getD i 0 = c) (h34 : c ≠ 34) (hn : c = 45 ∨ digB c = true) :
    Calls Try.prog 34 #[.slice (some ⟨b, 0, none⟩) len cap, .int .i64 i] w fun e w' => e = .returned (.tuple #[.int .i64 (pv zs i).1, .bool (pv zs i).2]) ∧ Below w.heap.size w w' := by
  have HF : Hid (pv zs i = wn zs i) := pv_num zs i (by omega) c hcc h34 hn
  have hcell := hc i hi
  rw [hcc] at hcell
  have HZ : Hid (zs.length = len) := hz
  have HC : Hid (∀ k, k < len → w.cell? ⟨b, k, none⟩ = some (.int .u8 (zs.getD k 0))) := hc
  have hb : ((i : Int) == (len : Int)) = false := beq_eq_false_iff_ne.2 (by omega)
  have hq : (c == 34) = false := beq_eq_false_iff_ne.2 h34
  clear hc hz hcc h34
  by_cases h45 : c = 45
  · subst h45
    clear hn
    go_enter Try.func34, Try.ntmps34
    go_wp2_with (go_at_call 33; refine (wholeNumber_calls b len cap zs i _ HZ.out hm hi HC.out).mono ?_; rintro e w ⟨rfl, rfl⟩)
    go_ret2
    exact ⟨ret2 (by rw [HF.out]) (by rw [HF.out]), Below.refl _ _⟩
  · have hd : 48 ≤ c ∧ c ≤ 57 := by
      rcases hn with h | h
      · exact absurd h h45
      · simpa [digB] using h
    have h45' : (c == 45) = false := beq_eq_false_iff_ne.2 h45
    obtain ⟨hlo, hhi⟩ := hd
    clear h45 hn
    go_enter Try.func34, Try.ntmps34
    go_wp2_with (go_at_call 33; refine (wholeNumber_calls b len cap zs i _ HZ.out hm hi HC.out).mono ?_; rintro e w ⟨rfl, rfl⟩)
    go_ret2
    exact ⟨ret2 (by rw [HF.out]) (by rw [HF.out]), Below.refl _ _⟩

/-- 'string(b[i:i+m])'. -/
theorem cut_text (b len cap : Nat) (zs : List Int) (i m : Nat) (w : World) (hc : ∀ k, k < len → w.cell? ⟨b, k, none⟩ = some (.int .u8 (zs.getD k 0))) (hl : i + m ≤ len) (hz : zs.length = len) :
    ∃ S : ByteArray, (∀ O, (convert 22 9 (.slice (some ⟨b, i, none⟩) m (cap - i))).run Try.prog (w.alloc O) = .ok (.string S) (w.alloc O)) ∧ Hid (S = strOfNums ((zs.drop i).take m)) := by
  refine ⟨_, fun O => ?_, rfl⟩
  have hcell : ∀ j, j < m → (w.alloc O).cell? ⟨b, i + j, none⟩ = some (.int .u8 (((zs.drop i).take m).getD j 0)) := by
    intro j hj
    rw [World.cell?_alloc_lt _ _ _ (World.block_lt_of_cell? _ _ (hc (i + j) (by omega))), hc (i + j) (by omega)]
    simp [List.getD_eq_getElem?_getD, hj]
  exact run_convert_bytes_arg (P := Try.prog) (w.alloc O) 22 5 Try.underlying22 Try.underlying5 b i m (cap - i) ((zs.drop i).take m) (by simp; omega) hcell 9 Try.underlying9

theorem tf (b : Bool) : b = true ∨ b = false := by cases b <;> simp

/-- The cut's text is the word, just where the word stands there. -/
theorem text_is (zs : List Int) (i : Nat) (W : List UInt8) (hl : i + W.length ≤ zs.length) (hb : ∀ k, k < zs.length → 0 ≤ zs.getD k 0 ∧ zs.getD k 0 ≤ 255) :
    ((strOfNums ((zs.drop i).take W.length)).toList == W) = hasW zs i (W.map fun c => (c.toNat : Int)) := by
  rw [ByteArray.toList_eq, strOfNums_data, Bool.eq_iff_iff, beq_iff_eq]
  unfold hasW
  rw [decide_eq_true_eq]
  have hat : ∀ t, t < W.length → ((((zs.drop i).take W.length).map fun n => UInt8.ofNat n.toNat)[t]? = some (UInt8.ofNat (zs.getD (i + t) 0).toNat)) := by
    intro t ht
    have h1 : i + t < zs.length := by omega
    simp [ht, h1, List.getD_eq_getElem?_getD]
  constructor
  · intro h
    refine ⟨by simpa using hl, fun t ht => ?_⟩
    have ht' : t < W.length := by simpa using ht
    have h1 := hat t ht'
    rw [h, List.getElem?_eq_getElem ht', Option.some.injEq] at h1
    have h2 := hb (i + t) (by omega)
    have h3 : (UInt8.ofNat (zs.getD (i + t) 0).toNat).toNat = (zs.getD (i + t) 0).toNat := by
      rw [UInt8.toNat_ofNat']; omega
    have h4 : (W.map fun c => (c.toNat : Int)).getD t 0 = (W[t].toNat : Int) := by simp [List.getD_eq_getElem?_getD, ht']
    rw [h4, h1, h3]; omega
  · rintro ⟨_, h⟩
    apply List.ext_getElem?
    intro t
    by_cases ht : t < W.length
    · rw [hat t ht, List.getElem?_eq_getElem ht, h t (by simpa using ht)]
      simp [List.getD_eq_getElem?_getD, ht]
    · rw [List.getElem?_eq_none (by simp; omega), List.getElem?_eq_none (by omega)]

set_option maxHeartbeats 2000000 in
theorem plainValue_word (b len cap : Nat) (zs : List Int) (i : Nat) (c : Int) (w : World) (hz : zs.length = len) (hm : len ≤ 2000000) (hcap : len ≤ cap) (hi : i < len)
    (hc : ∀ k, k < len → w.cell? ⟨b, k, none⟩ = some (.int .u8 (zs.getD k 0))) (hby : ∀ k, k < len → 0 ≤ zs.getD k 0 ∧ zs.getD k 0 ≤ 255) (hcc : zs.getD i 0 = c) (h34 : c ≠ 34) (hn : ¬ (c = 45 ∨ digB c = true)) :
    Calls Try.prog 34 #[.slice (some ⟨b, 0, none⟩) len cap, .int .i64 i] w fun e w' => e = .returned (.tuple #[.int .i64 (pv zs i).1, .bool (pv zs i).2]) ∧ Below w.heap.size w w' := by
  have HF : Hid (pv zs i = words zs i) := pv_word zs i (by omega) c hcc h34 hn
  have hcell := hc i hi
  rw [hcc] at hcell
  have HZ : Hid (zs.length = len) := hz
  have HC : Hid (∀ k, k < len → w.cell? ⟨b, k, none⟩ = some (.int .u8 (zs.getD k 0))) := hc
  have hb : ((i : Int) == (len : Int)) = false := beq_eq_false_iff_ne.2 (by omega)
  have hq : (c == 34) = false := beq_eq_false_iff_ne.2 h34
  have h45' : (c == 45) = false := beq_eq_false_iff_ne.2 (fun h => hn (Or.inl h))
  have hnd : ¬ (48 ≤ c ∧ c ≤ 57) := fun h => hn (Or.inr (by simp [digB, h.1, h.2]))
  have HB : Hid (∀ k, k < len → 0 ≤ zs.getD k 0 ∧ zs.getD k 0 ≤ 255) := hby
  clear hc hz hcc h34 hn hby
  have hside : c < 48 ∨ (48 ≤ c ∧ 57 < c) := by omega
  clear hnd
  rcases hside with hlo | ⟨hlo, hhi⟩
  · skip
    go_enter Try.func34, Try.ntmps34
    go_wp2
    go_loop [43] (fun t => ∃ k : Nat, k ≤ 3 ∧ t = .int .i64 k ∧ Hid ((0 < k → hasW zs i wTrue = false) ∧ (1 < k → hasW zs i wFalse = false) ∧ (2 < k → hasW zs i wNull = false))) (fun t => 3 - (intOf t).toNat)
    case atStart => exact ⟨0, by omega, rfl, (fun h => absurd h (by omega)), (fun h => absurd h (by omega)), (fun h => absurd h (by omega))⟩
    case round =>
      obtain ⟨k, hk, rfl, HR⟩ := hrel
      rcases (show k = 0 ∨ k = 1 ∨ k = 2 ∨ k = 3 from by omega) with rfl | rfl | rfl | rfl
      · by_cases hl : i + 4 ≤ len
        · obtain ⟨S, hcv, HS⟩ := cut_text b len cap zs i 4 w HC.out hl HZ.out
          have HT : Hid ((S.toList == [116, 114, 117, 101]) = hasW zs i wTrue) := by rw [HS.out]; exact text_is zs i [116, 114, 117, 101] (by rw [HZ.out]; exact hl) (fun k hk => HB.out k (by rw [← HZ.out]; exact hk))
          rcases tf (hasW zs i wTrue) with hw | hw
          · skip
            have HF2 : Hid (pv zs i = ((i : Int) + 4, true)) := HF.out.trans (words_true zs i hw)
            have htx : (S.toList == [116, 114, 117, 101]) = true := HT.out.trans hw
            clear hw HT HS
            go_wp2
            go_ret2
            exact ⟨ret2 (by rw [HF2.out]) (by rw [HF2.out]), (Below.refl _ _).alloc (Nat.le_refl _) _⟩
          · have HN : Hid (hasW zs i wTrue = false) := hw
            have htx : (S.toList == [116, 114, 117, 101]) = false := HT.out.trans hw
            clear hw HT HS
            go_wp2
            go_round
            case rel => exact ⟨1, by omega, rfl, (fun _ => HN.out), (fun h => absurd h (by omega)), (fun h => absurd h (by omega))⟩
            case measure => simp [intOf]
        · have hl' : decide ((4 : Int) ≤ (len : Int) - (i : Int)) = false := decide_eq_false (by omega)
          have HN : Hid (hasW zs i wTrue = false) := hasW_short zs i wTrue (by rw [HZ.out]; exact hl)
          go_wp2
          go_round
          case rel => exact ⟨1, by omega, rfl, (fun _ => HN.out), (fun h => absurd h (by omega)), (fun h => absurd h (by omega))⟩
          case measure => simp [intOf]
      · by_cases hl : i + 5 ≤ len
        · obtain ⟨S, hcv, HS⟩ := cut_text b len cap zs i 5 w HC.out hl HZ.out
          have HT : Hid ((S.toList == [102, 97, 108, 115, 101]) = hasW zs i wFalse) := by rw [HS.out]; exact text_is zs i [102, 97, 108, 115, 101] (by rw [HZ.out]; exact hl) (fun k hk => HB.out k (by rw [← HZ.out]; exact hk))
          rcases tf (hasW zs i wFalse) with hw | hw
          · skip
            have HF2 : Hid (pv zs i = ((i : Int) + 5, true)) := HF.out.trans (words_false zs i (HR.out.1 (by omega)) hw)
            have htx : (S.toList == [102, 97, 108, 115, 101]) = true := HT.out.trans hw
            clear hw HT HS
            go_wp2
            go_ret2
            exact ⟨ret2 (by rw [HF2.out]) (by rw [HF2.out]), (Below.refl _ _).alloc (Nat.le_refl _) _⟩
          · have HN : Hid (hasW zs i wFalse = false) := hw
            have htx : (S.toList == [102, 97, 108, 115, 101]) = false := HT.out.trans hw
            clear hw HT HS
            go_wp2
            go_round
            case rel => exact ⟨2, by omega, rfl, (fun _ => HR.out.1 (by omega)), (fun _ => HN.out), (fun h => absurd h (by omega))⟩
            case measure => simp [intOf]
        · have hl' : decide ((5 : Int) ≤ (len : Int) - (i : Int)) = false := decide_eq_false (by omega)
          have HN : Hid (hasW zs i wFalse = false) := hasW_short zs i wFalse (by rw [HZ.out]; exact hl)
          go_wp2
          go_round
          case rel => exact ⟨2, by omega, rfl, (fun _ => HR.out.1 (by omega)), (fun _ => HN.out), (fun h => absurd h (by omega))⟩
          case measure => simp [intOf]
      · by_cases hl : i + 4 ≤ len
        · obtain ⟨S, hcv, HS⟩ := cut_text b len cap zs i 4 w HC.out hl HZ.out
          have HT : Hid ((S.toList == [110, 117, 108, 108]) = hasW zs i wNull) := by rw [HS.out]; exact text_is zs i [110, 117, 108, 108] (by rw [HZ.out]; exact hl) (fun k hk => HB.out k (by rw [← HZ.out]; exact hk))
          rcases tf (hasW zs i wNull) with hw | hw
          · skip
            have HF2 : Hid (pv zs i = ((i : Int) + 4, true)) := HF.out.trans (words_null zs i (HR.out.1 (by omega)) (HR.out.2.1 (by omega)) hw)
            have htx : (S.toList == [110, 117, 108, 108]) = true := HT.out.trans hw
            clear hw HT HS
            go_wp2
            go_ret2
            exact ⟨ret2 (by rw [HF2.out]) (by rw [HF2.out]), (Below.refl _ _).alloc (Nat.le_refl _) _⟩
          · have HN : Hid (hasW zs i wNull = false) := hw
            have htx : (S.toList == [110, 117, 108, 108]) = false := HT.out.trans hw
            clear hw HT HS
            go_wp2
            go_round
            case rel => exact ⟨3, by omega, rfl, (fun _ => HR.out.1 (by omega)), (fun _ => HR.out.2.1 (by omega)), (fun _ => HN.out)⟩
            case measure => simp [intOf]
        · have hl' : decide ((4 : Int) ≤ (len : Int) - (i : Int)) = false := decide_eq_false (by omega)
          have HN : Hid (hasW zs i wNull = false) := hasW_short zs i wNull (by rw [HZ.out]; exact hl)
          go_wp2
          go_round
          case rel => exact ⟨3, by omega, rfl, (fun _ => HR.out.1 (by omega)), (fun _ => HR.out.2.1 (by omega)), (fun _ => HN.out)⟩
          case measure => simp [intOf]
      · have HF2 : Hid (pv zs i = (0, false)) := HF.out.trans (words_none zs i (HR.out.1 (by omega)) (HR.out.2.1 (by omega)) (HR.out.2.2 (by omega)))
        go_wp2
        go_ret2
        exact ⟨ret2 (by rw [HF2.out]) (by rw [HF2.out]), (Below.refl _ _).alloc (Nat.le_refl _) _⟩
  · have hhi' : decide (c ≤ 57) = false := decide_eq_false (by omega)
    clear hhi
    go_enter Try.func34, Try.ntmps34
    go_wp2
    go_loop [43] (fun t => ∃ k : Nat, k ≤ 3 ∧ t = .int .i64 k ∧ Hid ((0 < k → hasW zs i wTrue = false) ∧ (1 < k → hasW zs i wFalse = false) ∧ (2 < k → hasW zs i wNull = false))) (fun t => 3 - (intOf t).toNat)
    case atStart => exact ⟨0, by omega, rfl, (fun h => absurd h (by omega)), (fun h => absurd h (by omega)), (fun h => absurd h (by omega))⟩
    case round =>
      obtain ⟨k, hk, rfl, HR⟩ := hrel
      rcases (show k = 0 ∨ k = 1 ∨ k = 2 ∨ k = 3 from by omega) with rfl | rfl | rfl | rfl
      · by_cases hl : i + 4 ≤ len
        · obtain ⟨S, hcv, HS⟩ := cut_text b len cap zs i 4 w HC.out hl HZ.out
          have HT : Hid ((S.toList == [116, 114, 117, 101]) = hasW zs i wTrue) := by rw [HS.out]; exact text_is zs i [116, 114, 117, 101] (by rw [HZ.out]; exact hl) (fun k hk => HB.out k (by rw [← HZ.out]; exact hk))
          rcases tf (hasW zs i wTrue) with hw | hw
          · skip
            have HF2 : Hid (pv zs i = ((i : Int) + 4, true)) := HF.out.trans (words_true zs i hw)
            have htx : (S.toList == [116, 114, 117, 101]) = true := HT.out.trans hw
            clear hw HT HS
            go_wp2
            go_ret2
            exact ⟨ret2 (by rw [HF2.out]) (by rw [HF2.out]), (Below.refl _ _).alloc (Nat.le_refl _) _⟩
          · have HN : Hid (hasW zs i wTrue = false) := hw
            have htx : (S.toList == [116, 114, 117, 101]) = false := HT.out.trans hw
            clear hw HT HS
            go_wp2
            go_round
            case rel => exact ⟨1, by omega, rfl, (fun _ => HN.out), (fun h => absurd h (by omega)), (fun h => absurd h (by omega))⟩
            case measure => simp [intOf]
        · have hl' : decide ((4 : Int) ≤ (len : Int) - (i : Int)) = false := decide_eq_false (by omega)
          have HN : Hid (hasW zs i wTrue = false) := hasW_short zs i wTrue (by rw [HZ.out]; exact hl)
          go_wp2
          go_round
          case rel => exact ⟨1, by omega, rfl, (fun _ => HN.out), (fun h => absurd h (by omega)), (fun h => absurd h (by omega))⟩
          case measure => simp [intOf]
      · by_cases hl : i + 5 ≤ len
        · obtain ⟨S, hcv, HS⟩ := cut_text b len cap zs i 5 w HC.out hl HZ.out
          have HT : Hid ((S.toList == [102, 97, 108, 115, 101]) = hasW zs i wFalse) := by rw [HS.out]; exact text_is zs i [102, 97, 108, 115, 101] (by rw [HZ.out]; exact hl) (fun k hk => HB.out k (by rw [← HZ.out]; exact hk))
          rcases tf (hasW zs i wFalse) with hw | hw
          · skip
            have HF2 : Hid (pv zs i = ((i : Int) + 5, true)) := HF.out.trans (words_false zs i (HR.out.1 (by omega)) hw)
            have htx : (S.toList == [102, 97, 108, 115, 101]) = true := HT.out.trans hw
            clear hw HT HS
            go_wp2
            go_ret2
            exact ⟨ret2 (by rw [HF2.out]) (by rw [HF2.out]), (Below.refl _ _).alloc (Nat.le_refl _) _⟩
          · have HN : Hid (hasW zs i wFalse = false) := hw
            have htx : (S.toList == [102, 97, 108, 115, 101]) = false := HT.out.trans hw
            clear hw HT HS
            go_wp2
            go_round
            case rel => exact ⟨2, by omega, rfl, (fun _ => HR.out.1 (by omega)), (fun _ => HN.out), (fun h => absurd h (by omega))⟩
            case measure => simp [intOf]
        · have hl' : decide ((5 : Int) ≤ (len : Int) - (i : Int)) = false := decide_eq_false (by omega)
          have HN : Hid (hasW zs i wFalse = false) := hasW_short zs i wFalse (by rw [HZ.out]; exact hl)
          go_wp2
          go_round
          case rel => exact ⟨2, by omega, rfl, (fun _ => HR.out.1 (by omega)), (fun _ => HN.out), (fun h => absurd h (by omega))⟩
          case measure => simp [intOf]
      · by_cases hl : i + 4 ≤ len
        · obtain ⟨S, hcv, HS⟩ := cut_text b len cap zs i 4 w HC.out hl HZ.out
          have HT : Hid ((S.toList == [110, 117, 108, 108]) = hasW zs i wNull) := by rw [HS.out]; exact text_is zs i [110, 117, 108, 108] (by rw [HZ.out]; exact hl) (fun k hk => HB.out k (by rw [← HZ.out]; exact hk))
          rcases tf (hasW zs i wNull) with hw | hw
          · skip
            have HF2 : Hid (pv zs i = ((i : Int) + 4, true)) := HF.out.trans (words_null zs i (HR.out.1 (by omega)) (HR.out.2.1 (by omega)) hw)
            have htx : (S.toList == [110, 117, 108, 108]) = true := HT.out.trans hw
            clear hw HT HS
            go_wp2
            go_ret2
            exact ⟨ret2 (by rw [HF2.out]) (by rw [HF2.out]), (Below.refl _ _).alloc (Nat.le_refl _) _⟩
          · have HN : Hid (hasW zs i wNull = false) := hw
            have htx : (S.toList == [110, 117, 108, 108]) = false := HT.out.trans hw
            clear hw HT HS
            go_wp2
            go_round
            case rel => exact ⟨3, by omega, rfl, (fun _ => HR.out.1 (by omega)), (fun _ => HR.out.2.1 (by omega)), (fun _ => HN.out)⟩
            case measure => simp [intOf]
        · have hl' : decide ((4 : Int) ≤ (len : Int) - (i : Int)) = false := decide_eq_false (by omega)
          have HN : Hid (hasW zs i wNull = false) := hasW_short zs i wNull (by rw [HZ.out]; exact hl)
          go_wp2
          go_round
          case rel => exact ⟨3, by omega, rfl, (fun _ => HR.out.1 (by omega)), (fun _ => HR.out.2.1 (by omega)), (fun _ => HN.out)⟩
          case measure => simp [intOf]
      · have HF2 : Hid (pv zs i = (0, false)) := HF.out.trans (words_none zs i (HR.out.1 (by omega)) (HR.out.2.1 (by omega)) (HR.out.2.2 (by omega)))
        go_wp2
        go_ret2
        exact ⟨ret2 (by rw [HF2.out]) (by rw [HF2.out]), (Below.refl _ _).alloc (Nat.le_refl _) _⟩

end Go.Proofs.Qxb6602720a
