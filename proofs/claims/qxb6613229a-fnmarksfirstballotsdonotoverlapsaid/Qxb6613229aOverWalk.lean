/-
  Seat b6613229a. The walk of FnMarksFirstBallotsDoNotOverlap (function 4).
-/
import Derived.Test.Qxb6613229aMarks
namespace Go.Proofs.Qxb6613229a
open Go.RowKit

set_option maxHeartbeats 1000000 in
theorem over_big (c i j : Int) (p : Option Addr) (l k : Nat) (w : World) (h : 131072 < l) :
    Calls Try.prog 4 #[.int .i64 c, .slice p l k, .int .i64 i, .int .i64 j] w fun e w' => e = .returned (.bool true) ∧ Below w.heap.size w w' := by
  by_cases hl : l ≤ 1048576
  · go_enter Try.func4, Try.ntmps4
    go_wp2_with (go_at_call 10; refine (bytes10_true c i j p l k _ hl).mono ?_; rintro e w' ⟨rfl, rfl⟩)
    go_ret
    exact ⟨rfl, Below.refl _ _⟩
  · go_enter Try.func4, Try.ntmps4
    go_wp2_with (go_at_call 10; refine (bytes10_false c i j p l k _ (by omega)).mono ?_; rintro e w' ⟨rfl, rfl⟩)
    go_ret
    exact ⟨rfl, Below.refl _ _⟩

set_option maxHeartbeats 1000000 in
theorem over_out (c i j : Int) (p : Option Addr) (l k : Nat) (w : World) (hl : l ≤ 131072) (h : c < 0 ∨ i < 0 ∨ j ≤ i) :
    Calls Try.prog 4 #[.int .i64 c, .slice p l k, .int .i64 i, .int .i64 j] w fun e w' => e = .returned (.bool true) ∧ Below w.heap.size w w' := by
  have hl2 : l ≤ 1048576 := by omega
  by_cases h1 : c < 0
  · clear h
    go_enter Try.func4, Try.ntmps4
    go_wp2_with (go_at_call 10; refine (bytes10_true c i j p l k _ hl2).mono ?_; rintro e w' ⟨rfl, rfl⟩)
    go_ret
    exact ⟨rfl, Below.refl _ _⟩
  · by_cases h2 : i < 0
    · clear h
      go_enter Try.func4, Try.ntmps4
      go_wp2_with (go_at_call 10; refine (bytes10_true c i j p l k _ hl2).mono ?_; rintro e w' ⟨rfl, rfl⟩)
      go_ret
      exact ⟨rfl, Below.refl _ _⟩
    · have h3 : j ≤ i := by omega
      clear h
      go_enter Try.func4, Try.ntmps4
      go_wp2_with (go_at_call 10; refine (bytes10_true c i j p l k _ hl2).mono ?_; rintro e w' ⟨rfl, rfl⟩)
      go_ret
      exact ⟨rfl, Below.refl _ _⟩

set_option maxHeartbeats 1000000 in
theorem over_nil_past (c i j : Int) (hc0 : 0 < c) (hc1 : c ≤ 9223372036854775807) (hi0 : 0 ≤ i) (hij : i < j) (hj : j ≤ 9223372036854775807) (hq : 18446744073709551615 / c < j) (w : World) :
    Calls Try.prog 4 #[.int .i64 c, .slice none 0 0, .int .i64 i, .int .i64 j] w fun e w' => e = .returned (.bool true) ∧ Below w.heap.size w w' := by
  have hnil := fun (w : World) => run_neq_slice_nil_any (P := Try.prog) w 22 27 none 0 0 0 0 Try.underlying22
  go_enter Try.func4, Try.ntmps4
  go_wp2_with (go_at_call 10; refine (bytes10_true c i j none 0 0 _ (by omega)).mono ?_; rintro e w' ⟨rfl, rfl⟩)
  go_ret
  exact ⟨rfl, Below.refl _ _⟩

set_option maxHeartbeats 1000000 in
theorem over_nil_full (c i j : Int) (hc0 : 0 < c) (hc1 : c ≤ 9223372036854775807) (hi0 : 0 ≤ i) (hij : i < j) (hj : j ≤ 9223372036854775807) (hq : j ≤ 18446744073709551615 / c) (w : World) :
    Calls Try.prog 4 #[.int .i64 c, .slice none 0 0, .int .i64 i, .int .i64 j] w fun e w' => e = .returned (.bool true) ∧ Below w.heap.size w w' := by
  have hnil := fun (w : World) => run_neq_slice_nil_any (P := Try.prog) w 22 27 none 0 0 0 0 Try.underlying22
  have HP : Hid (j * c ≤ 18446744073709551615) := prod_within j c hc0 hq
  go_enter Try.func4, Try.ntmps4
  go_wp2_with fail
  refine (bytes10_true c i j none 0 0 _ (by omega)).mono ?_
  rintro e w' ⟨rfl, rfl⟩
  go_wp2_with fail
  refine (newMarks_any c _ _ _ _ rfl _).mono ?_
  rintro e w1 ⟨rfl, rfl⟩
  go_wp2_with fail
  refine (zfirst_any c _ _ _ i _).mono ?_
  rintro e w3 ⟨rfl, rfl⟩
  go_wp2_with fail
  refine (zfirst_any c _ _ _ j _).mono ?_
  rintro e w4 ⟨rfl, rfl⟩
  have hle := gap_le i j c (by omega) hi0 hij HP.out
  go_wp2
  go_ret
  refine ⟨ret_true (beq_iff_eq.2 (gap_eq i j c)), ?_⟩
  repeat (first | exact Below.refl _ _ | refine Below.alloc ?_ (by first | omega | (simp <;> omega)) _)

set_option maxHeartbeats 1000000 in
theorem over_nil_zero (c i j : Int) (hc0 : 0 ≤ c) (hc1 : c ≤ 0) (hi0 : 0 ≤ i) (hij : i < j) (hj : j ≤ 9223372036854775807) (w : World) :
    Calls Try.prog 4 #[.int .i64 c, .slice none 0 0, .int .i64 i, .int .i64 j] w fun e w' => e = .returned (.bool true) ∧ Below w.heap.size w w' := by
  have hnil := fun (w : World) => run_neq_slice_nil_any (P := Try.prog) w 22 27 none 0 0 0 0 Try.underlying22
  have HP : Hid (j * c ≤ 18446744073709551615) := prod_zero j c hc0 hc1
  go_enter Try.func4, Try.ntmps4
  go_wp2_with fail
  refine (bytes10_true c i j none 0 0 _ (by omega)).mono ?_
  rintro e w' ⟨rfl, rfl⟩
  go_wp2_with fail
  refine (newMarks_any c _ _ _ _ rfl _).mono ?_
  rintro e w1 ⟨rfl, rfl⟩
  go_wp2_with fail
  refine (zfirst_any c _ _ _ i _).mono ?_
  rintro e w3 ⟨rfl, rfl⟩
  go_wp2_with fail
  refine (zfirst_any c _ _ _ j _).mono ?_
  rintro e w4 ⟨rfl, rfl⟩
  have hle := gap_le i j c (by omega) hi0 hij HP.out
  go_wp2
  go_ret
  refine ⟨ret_true (beq_iff_eq.2 (gap_eq i j c)), ?_⟩
  repeat (first | exact Below.refl _ _ | refine Below.alloc ?_ (by first | omega | (simp <;> omega)) _)

set_option maxHeartbeats 1000000 in
theorem over_some_past (c i j : Int) (hc0 : 0 < c) (hc1 : c ≤ 9223372036854775807) (hi0 : 0 ≤ i) (hij : i < j) (hj : j ≤ 9223372036854775807) (hq : 18446744073709551615 / c < j) (x : Addr) (len cap : Nat) (zs : List Int) (w : World) (hlen : len ≤ 131072) (hlc : len ≤ cap) (hz : zs.length = cap) (hc : ∀ j, j < zs.length → w.cell? (x.add j) = some (.int .u64 (zs.getD j 0))) :
    Calls Try.prog 4 #[.int .i64 c, .slice (some x) len cap, .int .i64 i, .int .i64 j] w fun e w' => e = .returned (.bool true) ∧ Below w.heap.size w w' := by
  have hnil := fun (w : World) => run_neq_slice_nil_any (P := Try.prog) w 22 27 (some x) len cap 0 0 Try.underlying22
  have hmk := run_make_row' (P := Try.prog) 22 27 (.int .u64 0) 8 Try.underlying22 Try.info27 rfl .i64 .i64 len (by omega) (by omega)
  obtain ⟨w2, hcp, hb⟩ := copy_run x len cap zs w hlc hz hc
  have hsz := hb.size
  clear hc hz hlc
  go_enter Try.func4, Try.ntmps4
  go_wp2_with (go_at_call 10; refine (bytes10_true c i j (some x) len cap _ (by omega)).mono ?_; rintro e w' ⟨rfl, rfl⟩)
  go_ret
  exact ⟨rfl, hb⟩

set_option maxHeartbeats 1000000 in
theorem over_some_full (c i j : Int) (hc0 : 0 < c) (hc1 : c ≤ 9223372036854775807) (hi0 : 0 ≤ i) (hij : i < j) (hj : j ≤ 9223372036854775807) (hq : j ≤ 18446744073709551615 / c) (x : Addr) (len cap : Nat) (zs : List Int) (w : World) (hlen : len ≤ 131072) (hlc : len ≤ cap) (hz : zs.length = cap) (hc : ∀ j, j < zs.length → w.cell? (x.add j) = some (.int .u64 (zs.getD j 0))) :
    Calls Try.prog 4 #[.int .i64 c, .slice (some x) len cap, .int .i64 i, .int .i64 j] w fun e w' => e = .returned (.bool true) ∧ Below w.heap.size w w' := by
  have hnil := fun (w : World) => run_neq_slice_nil_any (P := Try.prog) w 22 27 (some x) len cap 0 0 Try.underlying22
  have hmk := run_make_row' (P := Try.prog) 22 27 (.int .u64 0) 8 Try.underlying22 Try.info27 rfl .i64 .i64 len (by omega) (by omega)
  obtain ⟨w2, hcp, hb⟩ := copy_run x len cap zs w hlc hz hc
  have hsz := hb.size
  clear hc hz hlc
  have HP : Hid (j * c ≤ 18446744073709551615) := prod_within j c hc0 hq
  go_enter Try.func4, Try.ntmps4
  go_wp2_with fail
  refine (bytes10_true c i j (some x) len cap _ (by omega)).mono ?_
  rintro e w' ⟨rfl, rfl⟩
  go_wp2_with fail
  refine (newMarks_any c _ _ _ _ rfl _).mono ?_
  rintro e w1 ⟨rfl, rfl⟩
  go_wp2_with fail
  refine (zfirst_any c _ _ _ i _).mono ?_
  rintro e w3 ⟨rfl, rfl⟩
  go_wp2_with fail
  refine (zfirst_any c _ _ _ j _).mono ?_
  rintro e w4 ⟨rfl, rfl⟩
  have hle := gap_le i j c (by omega) hi0 hij HP.out
  go_wp2
  go_ret
  refine ⟨ret_true (beq_iff_eq.2 (gap_eq i j c)), ?_⟩
  repeat (first | exact hb | refine Below.alloc ?_ (by first | omega | (simp <;> omega)) _)

set_option maxHeartbeats 1000000 in
theorem over_some_zero (c i j : Int) (hc0 : 0 ≤ c) (hc1 : c ≤ 0) (hi0 : 0 ≤ i) (hij : i < j) (hj : j ≤ 9223372036854775807) (x : Addr) (len cap : Nat) (zs : List Int) (w : World) (hlen : len ≤ 131072) (hlc : len ≤ cap) (hz : zs.length = cap) (hc : ∀ j, j < zs.length → w.cell? (x.add j) = some (.int .u64 (zs.getD j 0))) :
    Calls Try.prog 4 #[.int .i64 c, .slice (some x) len cap, .int .i64 i, .int .i64 j] w fun e w' => e = .returned (.bool true) ∧ Below w.heap.size w w' := by
  have hnil := fun (w : World) => run_neq_slice_nil_any (P := Try.prog) w 22 27 (some x) len cap 0 0 Try.underlying22
  have hmk := run_make_row' (P := Try.prog) 22 27 (.int .u64 0) 8 Try.underlying22 Try.info27 rfl .i64 .i64 len (by omega) (by omega)
  obtain ⟨w2, hcp, hb⟩ := copy_run x len cap zs w hlc hz hc
  have hsz := hb.size
  clear hc hz hlc
  have HP : Hid (j * c ≤ 18446744073709551615) := prod_zero j c hc0 hc1
  go_enter Try.func4, Try.ntmps4
  go_wp2_with fail
  refine (bytes10_true c i j (some x) len cap _ (by omega)).mono ?_
  rintro e w' ⟨rfl, rfl⟩
  go_wp2_with fail
  refine (newMarks_any c _ _ _ _ rfl _).mono ?_
  rintro e w1 ⟨rfl, rfl⟩
  go_wp2_with fail
  refine (zfirst_any c _ _ _ i _).mono ?_
  rintro e w3 ⟨rfl, rfl⟩
  go_wp2_with fail
  refine (zfirst_any c _ _ _ j _).mono ?_
  rintro e w4 ⟨rfl, rfl⟩
  have hle := gap_le i j c (by omega) hi0 hij HP.out
  go_wp2
  go_ret
  refine ⟨ret_true (beq_iff_eq.2 (gap_eq i j c)), ?_⟩
  repeat (first | exact hb | refine Below.alloc ?_ (by first | omega | (simp <;> omega)) _)

/-- All ways that pass the guards. -/
theorem over_in_nil (c i j : Int) (hc0 : 0 ≤ c) (hc1 : c ≤ 9223372036854775807) (hi0 : 0 ≤ i) (hij : i < j) (hj : j ≤ 9223372036854775807) (w : World) :
    Calls Try.prog 4 #[.int .i64 c, .slice none 0 0, .int .i64 i, .int .i64 j] w fun e w' => e = .returned (.bool true) ∧ Below w.heap.size w w' := by
  by_cases h : c ≤ 0
  · exact over_nil_zero c i j hc0 h hi0 hij hj w
  · by_cases hq : 18446744073709551615 / c < j
    · exact over_nil_past c i j (by omega) hc1 hi0 hij hj hq w
    · exact over_nil_full c i j (by omega) hc1 hi0 hij hj (by omega) w
theorem over_in_some (c i j : Int) (hc0 : 0 ≤ c) (hc1 : c ≤ 9223372036854775807) (hi0 : 0 ≤ i) (hij : i < j) (hj : j ≤ 9223372036854775807) (x : Addr) (len cap : Nat) (zs : List Int) (w : World) (hlen : len ≤ 131072) (hlc : len ≤ cap) (hz : zs.length = cap) (hc : ∀ j, j < zs.length → w.cell? (x.add j) = some (.int .u64 (zs.getD j 0))) :
    Calls Try.prog 4 #[.int .i64 c, .slice (some x) len cap, .int .i64 i, .int .i64 j] w fun e w' => e = .returned (.bool true) ∧ Below w.heap.size w w' := by
  by_cases h : c ≤ 0
  · exact over_some_zero c i j hc0 h hi0 hij hj x len cap zs w hlen hlc hz hc
  · by_cases hq : 18446744073709551615 / c < j
    · exact over_some_past c i j (by omega) hc1 hi0 hij hj hq x len cap zs w hlen hlc hz hc
    · exact over_some_full c i j (by omega) hc1 hi0 hij hj (by omega) x len cap zs w hlen hlc hz hc
end Go.Proofs.Qxb6613229a
