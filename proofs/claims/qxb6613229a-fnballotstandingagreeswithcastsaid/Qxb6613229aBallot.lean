/-
  Seat b6613229a. zzBallotReachable (11) BY CONTRACT, and the walk of FnBallotStandingAgreesWithCast (5).
-/
import Derived.Test.Qxb6613229aRows
import Derived.WalkKit
import Derived.WalkSpells
import Derived.RowKit3
import Derived.Below
namespace Go.Proofs.Qxb6613229a
open Go.RowKit

/-- A bool comes back; where it is true, p holds. -/
def Says (e : Ending) (p : Prop) : Prop := (e = .returned (.bool true) ∧ p) ∨ e = .returned (.bool false)
theorem says_of {b : Bool} {p : Prop} (h : b = true → p) : Says (.returned (.bool b)) p := by
  cases b
  · exact Or.inr rfl
  · exact Or.inl ⟨rfl, h rfl⟩

set_option maxHeartbeats 1000000 in
/-- A ballot that is not cast: true only where it stands 0. -/
theorem reach_not (a0 a1 : Int) (j : Bool) (a4 a5 : Int) (w : World) (b0 : -2147483648 ≤ a1) (b1 : a1 ≤ 2147483647) :
    Calls Try.prog 11 #[.int .i64 a0, .int .i32 a1, .bool false, .bool j, .int .u8 a4, .int .u8 a5] w fun e w' => Says e (a4 = 0) ∧ w' = w := by
  go_enter Try.func11, Try.ntmps11
  go_wp2
  all_goals go_ret
  all_goals first | exact ⟨says_of (fun h => by cases h), rfl⟩ | exact ⟨says_of (fun _ => by first | assumption | trivial | omega), rfl⟩

set_option maxHeartbeats 1000000 in
/-- A ballot that is cast and judged: true only where it doesn't stand 0. -/
theorem reach_judged (a0 a1 a4 a5 : Int) (w : World) (b0 : -2147483648 ≤ a1) (b1 : a1 ≤ 2147483647) :
    Calls Try.prog 11 #[.int .i64 a0, .int .i32 a1, .bool true, .bool true, .int .u8 a4, .int .u8 a5] w fun e w' => Says e (¬ a4 = 0) ∧ w' = w := by
  go_enter Try.func11, Try.ntmps11
  go_wp2
  all_goals go_ret
  all_goals first | exact ⟨says_of (fun h => by cases h), rfl⟩ | exact ⟨says_of (fun _ => beq_eq_false_iff_ne.1 ‹(a4 == 0) = false›), rfl⟩

set_option maxHeartbeats 1000000 in
theorem reach_unjudged (a0 a1 a4 a5 : Int) (w : World) (b0 : -2147483648 ≤ a1) (b1 : a1 ≤ 2147483647) :
    Calls Try.prog 11 #[.int .i64 a0, .int .i32 a1, .bool true, .bool false, .int .u8 a4, .int .u8 a5] w fun e w' => Says e True ∧ w' = w := by
  go_enter Try.func11, Try.ntmps11
  go_wp2
  all_goals go_ret
  all_goals first | exact ⟨says_of (fun h => by cases h), rfl⟩ | exact ⟨says_of (fun _ => trivial), rfl⟩

set_option maxHeartbeats 1000000 in
theorem ballot_not (a0 a1 : Int) (j : Bool) (a4 a5 : Int) (w : World) (b0 : -2147483648 ≤ a1) (b1 : a1 ≤ 2147483647) :
    Calls Try.prog 5 #[.int .i64 a0, .int .i32 a1, .bool false, .bool j, .int .u8 a4, .int .u8 a5] w fun e w' => e = .returned (.bool true) ∧ Grown w w' := by
  go_enter Try.func5, Try.ntmps5
  go_wp2_with fail
  refine (reach_not a0 a1 j a4 a5 _ b0 b1).mono ?_
  rintro e w' ⟨⟨rfl, rfl⟩ | rfl, rfl⟩
  · go_wp2
    go_end0
    go_wp2
    go_ret
    exact ⟨rfl, by repeat (first | exact Grown.refl _ | apply Grown.drew | apply Grown.alloc)⟩
  · go_wp2
    go_ret
    exact ⟨rfl, Grown.refl _⟩

set_option maxHeartbeats 1000000 in
theorem ballot_judged (a0 a1 a4 a5 : Int) (w : World) (b0 : -2147483648 ≤ a1) (b1 : a1 ≤ 2147483647) :
    Calls Try.prog 5 #[.int .i64 a0, .int .i32 a1, .bool true, .bool true, .int .u8 a4, .int .u8 a5] w fun e w' => e = .returned (.bool true) ∧ Grown w w' := by
  go_enter Try.func5, Try.ntmps5
  go_wp2_with fail
  refine (reach_judged a0 a1 a4 a5 _ b0 b1).mono ?_
  rintro e w' ⟨⟨rfl, h⟩ | rfl, rfl⟩
  · have h4 : (a4 != 0) = true := by simpa using h
    clear h
    go_wp2
    go_end0
    go_wp2
    go_ret
    exact ⟨rfl, by repeat (first | exact Grown.refl _ | apply Grown.drew | apply Grown.alloc)⟩
  · go_wp2
    go_ret
    exact ⟨rfl, Grown.refl _⟩

set_option maxHeartbeats 1000000 in
theorem ballot_unjudged (a0 a1 a4 a5 : Int) (w : World) (b0 : -2147483648 ≤ a1) (b1 : a1 ≤ 2147483647) :
    Calls Try.prog 5 #[.int .i64 a0, .int .i32 a1, .bool true, .bool false, .int .u8 a4, .int .u8 a5] w fun e w' => e = .returned (.bool true) ∧ Grown w w' := by
  go_enter Try.func5, Try.ntmps5
  go_wp2_with fail
  refine (reach_unjudged a0 a1 a4 a5 _ b0 b1).mono ?_
  rintro e w' ⟨⟨rfl, _⟩ | rfl, rfl⟩
  all_goals
    go_wp2
    go_ret
    exact ⟨rfl, Grown.refl _⟩

/-- FnBallotStandingAgreesWithCast answers true. -/
theorem ballot_any (a0 a1 : Int) (c j : Bool) (a4 a5 : Int) (w : World) (b0 : -2147483648 ≤ a1) (b1 : a1 ≤ 2147483647) :
    Calls Try.prog 5 #[.int .i64 a0, .int .i32 a1, .bool c, .bool j, .int .u8 a4, .int .u8 a5] w fun e w' => e = .returned (.bool true) ∧ Grown w w' := by
  cases c
  · exact ballot_not a0 a1 j a4 a5 w b0 b1
  · cases j
    · exact ballot_unjudged a0 a1 a4 a5 w b0 b1
    · exact ballot_judged a0 a1 a4 a5 w b0 b1
end Go.Proofs.Qxb6613229a
