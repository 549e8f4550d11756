/- The walk of modelValueJB1: it computes 'pv'. -/
import Derived.Test.Qxb6602720aWord
import Derived.Test.Qxb6602720aModW
namespace Go.Proofs.Qxb6602720a
open Go.RowKit
open Go.Proofs.Qxb6602720a.Pj

theorem hasWord_is (b len cap : Nat) (zs : List Int) (i : Nat) (s : ByteArray) (W : List Int) (r : Bool) (w : World) (hz : zs.length = len) (hm : len ≤ 2000000) (hi : i ≤ len) (hs : s.size ≤ 1000)
    (hc : ∀ k, k < len → w.cell? ⟨b, k, none⟩ = some (.int .u8 (zs.getD k 0))) (hW : sb s = W) (hr : hasW zs i W = r) :
    Calls Try.prog 35 #[.slice (some ⟨b, 0, none⟩) len cap, .int .i64 i, .string s] w fun e w' => e = .returned (.bool r) ∧ ∃ n, w' = w.drewN n := by
  refine (hasWord_calls b len cap zs i s w hz hm hi hs hc).mono ?_
  rintro e w' ⟨rfl, h⟩
  rw [hW, hr]; exact ⟨rfl, h⟩

theorem modelString_is (b len cap : Nat) (zs : List Int) (i : Nat) (v : Int) (ok : Bool) (w : World) (hz : zs.length = len) (hm : len ≤ 2000000) (hi : i < len)
    (hc : ∀ k, k < len → w.cell? ⟨b, k, none⟩ = some (.int .u8 (zs.getD k 0))) (hp : ps zs i = (v, ok)) :
    Calls Try.prog 15 #[.slice (some ⟨b, 0, none⟩) len cap, .int .i64 i] w fun e w' => e = .returned (.tuple #[.int .i64 v, .bool ok]) ∧ w' = w := by
  refine (modelString_calls b len cap zs i w hz hm hi hc).mono ?_
  rintro e w' ⟨rfl, rfl⟩
  rw [hp]; exact ⟨rfl, rfl⟩

theorem modelWhole_is (b len cap : Nat) (zs : List Int) (i : Nat) (v : Int) (ok : Bool) (w : World) (hz : zs.length = len) (hm : len ≤ 2000000) (hi : i < len)
    (hc : ∀ k, k < len → w.cell? ⟨b, k, none⟩ = some (.int .u8 (zs.getD k 0))) (hp : wn zs i = (v, ok)) :
    Calls Try.prog 21 #[.slice (some ⟨b, 0, none⟩) len cap, .int .i64 i] w fun e w' => e = .returned (.tuple #[.int .i64 v, .bool ok]) ∧ w' = w := by
  refine (modelWhole_calls b len cap zs i w hz hm hi hc).mono ?_
  rintro e w' ⟨rfl, rfl⟩
  rw [hp]; exact ⟨rfl, rfl⟩

theorem cells_drewN {w : World} {b len : Nat} {zs : List Int} (h : ∀ k, k < len → w.cell? ⟨b, k, none⟩ = some (.int .u8 (zs.getD k 0))) (n : Nat) :
    ∀ k, k < len → (w.drewN n).cell? ⟨b, k, none⟩ = some (.int .u8 (zs.getD k 0)) := fun k hk => by rw [World.cell?_drewN]; exact h k hk

theorem sbTrue : sb ⟨#[116, 114, 117, 101]⟩ = wTrue := by decide
theorem sbFalse : sb ⟨#[102, 97, 108, 115, 101]⟩ = wFalse := by decide
theorem sbNull : sb ⟨#[110, 117, 108, 108]⟩ = wNull := by decide

theorem modelValue_end (ao : Option Addr) (len cap : Nat) (w : World) :
    Calls Try.prog 29 #[.slice ao len cap, .int .i64 len] w fun e w' => e = .returned (.tuple #[.int .i64 0, .bool false]) ∧ ∃ n, w' = w.drewN n := by
  have hb : ((len : Int) == (len : Int)) = true := by simp
  go_enter Try.func29, Try.ntmps29
  go_wp2
  go_ret2
  exact ⟨rfl, 0, rfl⟩

set_option maxHeartbeats 2000000 in
theorem modelValue_calls (b len cap : Nat) (zs : List Int) (i : Nat) (w : World) (hz : zs.length = len) (hm : len ≤ 2000000) (hi : i < len)
    (hc : ∀ k, k < len → w.cell? ⟨b, k, none⟩ = some (.int .u8 (zs.getD k 0))) :
    Calls Try.prog 29 #[.slice (some ⟨b, 0, none⟩) len cap, .int .i64 i] w fun e w' => e = .returned (.tuple #[.int .i64 (pv zs i).1, .bool (pv zs i).2]) ∧ ∃ n, w' = w.drewN n := by
  have HZ : Hid (zs.length = len) := hz
  have HC : Hid (∀ k, k < len → w.cell? ⟨b, k, none⟩ = some (.int .u8 (zs.getD k 0))) := hc
  clear hc hz
  have hb : ((i : Int) == (len : Int)) = false := beq_eq_false_iff_ne.2 (by omega)
  have HM : Hid (pv zs i = if (ps zs i).2 = true then ps zs i else if (wn zs i).2 = true then wn zs i else words zs i) := model_pv zs i (by rw [HZ.out]; exact hi)
  obtain ⟨p1, p2, HP⟩ : ∃ p1 p2, Hid (ps zs i = (p1, p2)) := ⟨_, _, rfl⟩
  obtain ⟨q1, q2, HQ⟩ : ∃ q1 q2, Hid (wn zs i = (q1, q2)) := ⟨_, _, rfl⟩
  cases p2 with
  | true =>
    have HF : Hid (pv zs i = (p1, true)) := by rw [HM.out, HP.out]; rfl
    go_enter Try.func29, Try.ntmps29
    go_wp2_with (go_at_call 15; refine (modelString_is b len cap zs i p1 true _ HZ.out hm hi HC.out HP.out).mono ?_; rintro e w ⟨rfl, rfl⟩)
    go_ret2
    exact ⟨ret2 (by rw [HF.out]) (by rw [HF.out]), 0, rfl⟩
  | false =>
    cases q2 with
    | true =>
      have HF : Hid (pv zs i = (q1, true)) := by rw [HM.out, HP.out, HQ.out]; rfl
      go_enter Try.func29, Try.ntmps29
      go_wp2_with (first | (go_at_call 15; refine (modelString_is b len cap zs i p1 false _ HZ.out hm hi HC.out HP.out).mono ?_; rintro e w ⟨rfl, rfl⟩) | (go_at_call 21; refine (modelWhole_is b len cap zs i q1 true _ HZ.out hm hi HC.out HQ.out).mono ?_; rintro e w ⟨rfl, rfl⟩))
      go_ret2
      exact ⟨ret2 (by rw [HF.out]) (by rw [HF.out]), 0, rfl⟩
    | false =>
      have HW : Hid (pv zs i = words zs i) := by rw [HM.out, HP.out, HQ.out]; rfl
      clear HM
      obtain ⟨r1, R1⟩ : ∃ r, Hid (hasW zs i wTrue = r) := ⟨_, rfl⟩
      obtain ⟨r2, R2⟩ : ∃ r, Hid (hasW zs i wFalse = r) := ⟨_, rfl⟩
      obtain ⟨r3, R3⟩ : ∃ r, Hid (hasW zs i wNull = r) := ⟨_, rfl⟩
      cases r1 with
      | true =>
        have HF : Hid (pv zs i = ((i : Int) + 4, true)) := HW.out.trans (words_true zs i R1.out)
        go_enter Try.func29, Try.ntmps29
        go_wp2_with (first | (go_at_call 15; refine (modelString_is b len cap zs i p1 false _ HZ.out hm hi HC.out HP.out).mono ?_; rintro e w ⟨rfl, rfl⟩) | (go_at_call 21; refine (modelWhole_is b len cap zs i q1 false _ HZ.out hm hi HC.out HQ.out).mono ?_; rintro e w ⟨rfl, rfl⟩))
        refine (hasWord_is b len cap zs i _ wTrue true w HZ.out hm (by omega) (by decide) HC.out sbTrue R1.out).mono ?_
        rintro e w1 ⟨rfl, n1, rfl⟩
        go_wp2
        go_ret2
        exact ⟨ret2 (by rw [HF.out]) (by rw [HF.out]), _, rfl⟩
      | false =>
        cases r2 with
        | true =>
          have HF : Hid (pv zs i = ((i : Int) + 5, true)) := HW.out.trans (words_false zs i R1.out R2.out)
          go_enter Try.func29, Try.ntmps29
          go_wp2_with (first | (go_at_call 15; refine (modelString_is b len cap zs i p1 false _ HZ.out hm hi HC.out HP.out).mono ?_; rintro e w ⟨rfl, rfl⟩) | (go_at_call 21; refine (modelWhole_is b len cap zs i q1 false _ HZ.out hm hi HC.out HQ.out).mono ?_; rintro e w ⟨rfl, rfl⟩))
          refine (hasWord_is b len cap zs i _ wTrue false w HZ.out hm (by omega) (by decide) HC.out sbTrue R1.out).mono ?_
          rintro e w1 ⟨rfl, n1, rfl⟩
          go_wp2_with fail
          refine (hasWord_is b len cap zs i _ wFalse true (w.drewN n1) HZ.out hm (by omega) (by decide) (cells_drewN HC.out _) sbFalse R2.out).mono ?_
          rintro e w1 ⟨rfl, n2, rfl⟩
          go_wp2
          go_ret2
          exact ⟨ret2 (by rw [HF.out]) (by rw [HF.out]), _, rfl⟩
        | false =>
          have H3 : ∃ v, Hid (pv zs i = (v, r3)) ∧ ((r3 = true ∧ v = (i : Int) + 4) ∨ (r3 = false ∧ v = 0)) := by
            cases r3 with
            | true => exact ⟨_, HW.out.trans (words_null zs i R1.out R2.out R3.out), .inl ⟨rfl, rfl⟩⟩
            | false => exact ⟨_, HW.out.trans (words_none zs i R1.out R2.out R3.out), .inr ⟨rfl, rfl⟩⟩
          obtain ⟨v, HF, hv⟩ := H3
          rcases hv with ⟨rfl, rfl⟩ | ⟨rfl, rfl⟩
          all_goals
            go_enter Try.func29, Try.ntmps29
            go_wp2_with (first | (go_at_call 15; refine (modelString_is b len cap zs i p1 false _ HZ.out hm hi HC.out HP.out).mono ?_; rintro e w ⟨rfl, rfl⟩) | (go_at_call 21; refine (modelWhole_is b len cap zs i q1 false _ HZ.out hm hi HC.out HQ.out).mono ?_; rintro e w ⟨rfl, rfl⟩))
            refine (hasWord_is b len cap zs i _ wTrue false w HZ.out hm (by omega) (by decide) HC.out sbTrue R1.out).mono ?_
            rintro e w1 ⟨rfl, n1, rfl⟩
            go_wp2_with fail
            refine (hasWord_is b len cap zs i _ wFalse false (w.drewN n1) HZ.out hm (by omega) (by decide) (cells_drewN HC.out _) sbFalse R2.out).mono ?_
            rintro e w1 ⟨rfl, n2, rfl⟩
            go_wp2_with fail
            refine (hasWord_is b len cap zs i _ wNull _ (w.drewN (n1 + n2)) HZ.out hm (by omega) (by decide) (cells_drewN HC.out _) sbNull R3.out).mono ?_
            rintro e w1 ⟨rfl, n3, rfl⟩
            go_wp2
            go_ret2
            exact ⟨ret2 (by rw [HF.out]) (by rw [HF.out]), _, rfl⟩

end Go.Proofs.Qxb6602720a
