/-
  Seat b6613229a. The walk of FnMarksFirstStepsByCandidates (function 3).
-/
import Derived.Test.Qxb6613229aMarks
namespace Go.Proofs.Qxb6613229a
open Go.RowKit

set_option maxHeartbeats 1000000 in
theorem steps_big (c i : Int) (p : Option Addr) (l k : Nat) (w : World) (h : 131072 < l) :
    Calls Try.prog 3 #[.int .i64 c, .slice p l k, .int .i64 i] w fun e w' => e = .returned (.bool true) ∧ Below w.heap.size w w' := by
  by_cases hl : l ≤ 1048576
  · go_enter Try.func3, Try.ntmps3
    go_wp2_with (go_at_call 7; refine (bytes7_true c i p l k _ hl).mono ?_; rintro e w' ⟨rfl, rfl⟩)
    go_ret
    exact ⟨rfl, Below.refl _ _⟩
  · go_enter Try.func3, Try.ntmps3
    go_wp2_with (go_at_call 7; refine (bytes7_false c i p l k _ (by omega)).mono ?_; rintro e w' ⟨rfl, rfl⟩)
    go_ret
    exact ⟨rfl, Below.refl _ _⟩

set_option maxHeartbeats 1000000 in
theorem steps_nil (c i : Int) (hi0 : -9223372036854775808 ≤ i) (hi1 : i ≤ 9223372036854775807) (w : World) :
    Calls Try.prog 3 #[.int .i64 c, .slice none 0 0, .int .i64 i] w fun e w' => e = .returned (.bool true) ∧ Below w.heap.size w w' := by
  have hnil := fun (w : World) => run_neq_slice_nil_any (P := Try.prog) w 22 27 none 0 0 0 0 Try.underlying22
  by_cases hi : i = 9223372036854775807
  · subst hi
    go_enter Try.func3, Try.ntmps3
    go_wp2_with (go_at_call 7; refine (bytes7_true c _ _ _ _ _ (by omega)).mono ?_; rintro e w' ⟨rfl, rfl⟩)
    go_ret
    exact ⟨rfl, Below.refl _ _⟩
  · have hi2 : i ≤ 9223372036854775806 := by omega
    clear hi hi1
    go_enter Try.func3, Try.ntmps3
    go_wp2_with fail
    refine (bytes7_true c i none 0 0 _ (by omega)).mono ?_
    rintro e w' ⟨rfl, rfl⟩
    go_wp2_with fail
    refine (newMarks_any c (.slice none 0 0) none 0 0 rfl _).mono ?_
    rintro e w1 ⟨rfl, rfl⟩
    go_wp2_with fail
    refine (zfirst_any c none 0 0 i _).mono ?_
    rintro e w2 ⟨rfl, rfl⟩
    go_wp2_with fail
    refine (zfirst_any c none 0 0 (i + 1) _).mono ?_
    rintro e w3 ⟨rfl, rfl⟩
    have hst := step_eq i c
    go_wp2
    go_ret
    refine ⟨rfl, ?_⟩
    repeat (first | exact Below.refl _ _ | refine Below.alloc ?_ (by first | omega | (simp <;> omega)) _)

set_option maxHeartbeats 1000000 in
theorem steps_some (c i : Int) (hi0 : -9223372036854775808 ≤ i) (hi1 : i ≤ 9223372036854775807) (x : Addr) (len cap : Nat) (zs : List Int) (w : World)
    (hlen : len ≤ 131072) (hlc : len ≤ cap) (hz : zs.length = cap) (hc : ∀ j, j < zs.length → w.cell? (x.add j) = some (.int .u64 (zs.getD j 0))) :
    Calls Try.prog 3 #[.int .i64 c, .slice (some x) len cap, .int .i64 i] w fun e w' => e = .returned (.bool true) ∧ Below w.heap.size w w' := by
  have hnil := fun (w : World) => run_neq_slice_nil_any (P := Try.prog) w 22 27 (some x) len cap 0 0 Try.underlying22
  have hmk := run_make_row' (P := Try.prog) 22 27 (.int .u64 0) 8 Try.underlying22 Try.info27 rfl .i64 .i64 len (by omega) (by omega)
  obtain ⟨w2, hcp, hb⟩ := copy_run x len cap zs w hlc hz hc
  have hsz := hb.size
  clear hc hz hlc
  by_cases hi : i = 9223372036854775807
  · subst hi
    go_enter Try.func3, Try.ntmps3
    go_wp2_with (go_at_call 7; refine (bytes7_true c _ _ _ _ _ (by omega)).mono ?_; rintro e w' ⟨rfl, rfl⟩)
    go_ret
    exact ⟨rfl, hb⟩
  · have hi2 : i ≤ 9223372036854775806 := by omega
    clear hi hi1
    go_enter Try.func3, Try.ntmps3
    go_wp2_with fail
    refine (bytes7_true c i (some x) len cap _ (by omega)).mono ?_
    rintro e w' ⟨rfl, rfl⟩
    go_wp2_with fail
    refine (newMarks_any c _ _ _ _ rfl _).mono ?_
    rintro e w1 ⟨rfl, rfl⟩
    go_wp2_with fail
    refine (zfirst_any c _ _ _ i _).mono ?_
    rintro e w3 ⟨rfl, rfl⟩
    go_wp2_with fail
    refine (zfirst_any c _ _ _ (i + 1) _).mono ?_
    rintro e w4 ⟨rfl, rfl⟩
    have hst := step_eq i c
    go_wp2
    go_ret
    refine ⟨rfl, ?_⟩
    repeat (first | exact hb | refine Below.alloc ?_ (by first | omega | (simp <;> omega)) _)

end Go.Proofs.Qxb6613229a
