/-
  Seat b6613108a. The walk of FnUnitsAddMatchesLimbSum (function 3).
-/
import Derived.Test.Qxb6613108aLimbs
namespace Go.Proofs.Qxb6613108a
open Go.RowKit
theorem ret_bool {b : Bool} (h : b = true) : Ending.returned (.bool b) = .returned (.bool true) := by rw [h]
set_option maxHeartbeats 1000000 in
theorem limb_walk (a0 a1 a2 a3 : Int) (h0 : Word a0) (h1 : Word a1) (h2 : Word a2) (h3 : Word a3) (w : World) :
    Calls Try.prog 3 #[.int .u64 a0, .int .u64 a1, .int .u64 a2, .int .u64 a3] w fun e w' => e = .returned (.bool true) ∧ Grown w w' := by
  go_enter Try.func3, Try.ntmps3
  go_wp2_with (go_at_call 6; refine (zadd_any a0 a1 a2 a3 h0 h1 h2 h3 _).mono ?_; rintro e w' ⟨rfl, hg⟩)
  · go_ret
    exact ⟨ret_bool (beq_iff_eq.2 (wlo_eq a1 a3 h1 h3)), hg⟩
  · exact absurd (whi_eq a0 a1 a2 a3 h0 h1 h2 h3) ‹_›
end Go.Proofs.Qxb6613108a
