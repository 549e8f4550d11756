/- The walks of ledger.splitYearMonth and its door. -/
import Derived.Test.Qxb6602729aDig
namespace Go.Proofs.Qxb6602729a
open Go.RowKit
open Go.Proofs.Qxb6602729a.Pd

set_option maxHeartbeats 1000000 in
theorem split_is (s : ByteArray) (A B : Int) (w : World) (hs : s.size = 7) (h4 : (s[4].toNat : Int) = 45) (hA : dval (sb (s.extract 0 4)) = (A, true)) (hB : dval (sb (s.extract 5 7)) = (B, true)) :
    Calls Try.prog 27 #[.string s] w fun e w' => e = .returned (.tuple #[.int .i64 A, .int .i64 B, .bool true]) ∧ w' = w := by
  have HA : Hid (dval (sb (s.extract 0 4)) = (A, true)) := hA
  have HB : Hid (dval (sb (s.extract 5 7)) = (B, true)) := hB
  have HS : Hid (s.size = 7) := hs
  have h45 : ((s[4].toNat : Int) != 45) = false := by rw [h4]; rfl
  have hne : ((s.size : Int) != 7) = false := by rw [hs]; rfl
  clear hA hB h4
  go_enter Try.func27, Try.ntmps27
  go_wp2_with fail
  refine (digits_is (s.extract 0 4) A true w (by rw [ByteArray.size_extract]; omega) HA.out).mono ?_
  rintro e w1 ⟨rfl, rfl⟩
  go_wp2_with fail
  refine (digits_is (s.extract 5 7) B true _ (by rw [ByteArray.size_extract]; omega) HB.out).mono ?_
  rintro e w1 ⟨rfl, rfl⟩
  go_wp2
  go_ret3
  exact ⟨rfl, rfl⟩

theorem zzSplit_is (s : ByteArray) (A B : Int) (w : World) (hs : s.size = 7) (h4 : (s[4].toNat : Int) = 45) (hA : dval (sb (s.extract 0 4)) = (A, true)) (hB : dval (sb (s.extract 5 7)) = (B, true)) :
    Calls Try.prog 16 #[.string s] w fun e w' => e = .returned (.tuple #[.int .i64 A, .int .i64 B, .bool true]) ∧ w' = w := by
  have HA : Hid (dval (sb (s.extract 0 4)) = (A, true)) := hA
  have HB : Hid (dval (sb (s.extract 5 7)) = (B, true)) := hB
  have H4 : Hid ((s[4].toNat : Int) = 45) := h4
  clear hA hB h4
  go_enter Try.func16, Try.ntmps16
  go_wp2_with fail
  refine (split_is s A B w hs H4.out HA.out HB.out).mono ?_
  rintro e w1 ⟨rfl, rfl⟩
  go_wp2
  go_ret3
  exact ⟨rfl, rfl⟩
end Go.Proofs.Qxb6602729a
