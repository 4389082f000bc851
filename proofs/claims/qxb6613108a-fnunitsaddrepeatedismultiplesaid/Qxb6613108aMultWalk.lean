/-
  Seat b6613108a. The walk of FnUnitsAddRepeatedIsMultiple (function 4).
-/
import Derived.Test.Qxb6613108aMult
import Derived.Below
namespace Go.Proofs.Qxb6613108a
open Go.RowKit
theorem ret_true {b : Bool} (h : b = true) : Ending.returned (.bool b) = .returned (.bool true) := by rw [h]
set_option maxHeartbeats 1000000 in
theorem mult_walk (a0 a1 : Int) (n : Nat) (h0 : Word a0) (h1 : Word a1) (hn : n < 65536) (w : World) :
    Calls Try.prog 4 #[.int .u64 a0, .int .u64 a1, .int .u16 n] w fun e w' => e = .returned (.bool true) ∧ Grown w w' := by
  go_enter Try.func4, Try.ntmps4
  go_wp2
  go_loopw [7, 8, 10] (fun hi lo i wr => ∃ k : Nat, k ≤ n ∧ hi = .int .u64 (accHi a0 a1 k) ∧ lo = .int .u64 (accLo a1 k) ∧ i = .int .i64 k ∧ Hid (Grown w wr)) (fun _ _ i _ => n - (intOf i).toNat)
  case atStart => exact ⟨0, Nat.zero_le _, by simp [accHi], by simp [accLo], rfl, Grown.refl _⟩
  case round =>
    obtain ⟨k, hk, rfl, rfl, rfl, hg⟩ := hrel
    by_cases hlt : k < n
    · go_wp2_with fail
      refine (first_call a0 a1 h0 h1 k _).mono ?_
      rintro e w1 ⟨rfl, hg1⟩
      have HG1 : Hid (Grown wr w1) := hg1
      clear hg1
      go_wp2_with fail
      refine (second_call a0 a1 h0 h1 k _).mono ?_
      rintro e w2 ⟨rfl, hg2⟩
      have HG2 : Hid (Grown w1 w2) := hg2
      clear hg2
      go_wp2
      go_roundw
      case rel => exact ⟨k + 1, by omega, rfl, rfl, by go_num, Grown.trans (Grown.trans hg HG1) HG2⟩
      case measure => simp [intOf]; omega
    · obtain rfl : k = n := by omega
      go_wp2
      · go_ret
        exact ⟨ret_true (beq_iff_eq.2 (plo_eq a1 k h1 hn)), hg⟩
      · exact absurd (phi_eq a0 a1 k h0 h1 hn) ‹_›
end Go.Proofs.Qxb6613108a
