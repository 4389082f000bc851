/-
  Seat b6613229a. THE CALLEES OF THE TWO LAWS OVER Marks, BY CONTRACT: ZZnewMarks (8), (Marks).first (19), ZZmarksFirst (9), the two length bounds (7, 10); and the plain arithmetic modulo 2^64.
-/
import Derived.Test.Qxb6613229aRows
import Derived.WalkKit
import Derived.WalkSpells
import Derived.Laws.BitsAllLaws
import Derived.Below
import Derived.Deep.OwnRows
import Derived.Laws.CopyOwn
namespace Go.Proofs.Qxb6613229a
open Go.RowKit

/-- ZZnewMarks. -/
theorem newMarks_any (c : Int) (s : Value) (p : Option Addr) (l k : Nat) (hs : s = .slice p l k) (w : World) :
    Calls Try.prog 8 #[.int .i64 c, s] w fun e w' => e = .returned (.agg #[.int .i64 c, s]) ∧ w' = w.alloc (.cells #[.int .i64 c, s] 25) := by
  subst hs
  go_enter Try.func8, Try.ntmps8
  go_wp2
  exact bodyPost_ret (v := .agg #[.int .i64 c, .slice p l k]) (by simp [results, Try.results8, go_sem]) rfl ⟨rfl, rfl⟩

/-- uint64(i) * uint64(c), as the walk writes it. -/
def firstV (i c : Int) : Int := IntKind.u64.wrap (IntKind.u64.wrap i * IntKind.u64.wrap c)

/-- (Marks).first. -/
theorem first_any (c : Int) (p : Option Addr) (l k : Nat) (i : Int) (w : World) :
    Calls Try.prog 19 #[.agg #[.int .i64 c, .slice p l k], .int .i64 i] w fun e w' => e = .returned (.int .u64 (firstV i c)) ∧ w' = w.alloc (.cells #[.int .i64 c, .slice p l k] 25) := by
  go_enter Try.func19, Try.ntmps19
  go_wp2
  go_ret
  exact ⟨rfl, rfl⟩
/-- ZZmarksFirst. -/
theorem zfirst_any (c : Int) (p : Option Addr) (l k : Nat) (i : Int) (w : World) :
    Calls Try.prog 9 #[.agg #[.int .i64 c, .slice p l k], .int .i64 i] w fun e w' => e = .returned (.int .u64 (firstV i c)) ∧ w' = (w.alloc (.cells #[.int .i64 c, .slice p l k] 25)).alloc (.cells #[.int .i64 c, .slice p l k] 25) := by
  go_enter Try.func9, Try.ntmps9
  go_wp2_with (go_at_call 19; refine (first_any c p l k i _).mono ?_; rintro e w' ⟨rfl, rfl⟩)
  go_ret
  exact ⟨rfl, rfl⟩

/-- The length bound (7). -/
theorem bytes7_true (c i : Int) (p : Option Addr) (l k : Nat) (w : World) (h : l ≤ 1048576) :
    Calls Try.prog 7 #[.int .i64 c, .slice p l k, .int .i64 i] w fun e w' => e = .returned (.bool true) ∧ w' = w := by
  go_enter Try.func7, Try.ntmps7
  go_wp2
  all_goals (go_ret; exact ⟨rfl, rfl⟩)
theorem bytes7_false (c i : Int) (p : Option Addr) (l k : Nat) (w : World) (h : 1048576 < l) :
    Calls Try.prog 7 #[.int .i64 c, .slice p l k, .int .i64 i] w fun e w' => e = .returned (.bool false) ∧ w' = w := by
  go_enter Try.func7, Try.ntmps7
  go_wp2
  all_goals (go_ret; exact ⟨rfl, rfl⟩)
/-- The length bound (10). -/
theorem bytes10_true (c i j : Int) (p : Option Addr) (l k : Nat) (w : World) (h : l ≤ 1048576) :
    Calls Try.prog 10 #[.int .i64 c, .slice p l k, .int .i64 i, .int .i64 j] w fun e w' => e = .returned (.bool true) ∧ w' = w := by
  go_enter Try.func10, Try.ntmps10
  go_wp2
  all_goals (go_ret; exact ⟨rfl, rfl⟩)
theorem bytes10_false (c i j : Int) (p : Option Addr) (l k : Nat) (w : World) (h : 1048576 < l) :
    Calls Try.prog 10 #[.int .i64 c, .slice p l k, .int .i64 i, .int .i64 j] w fun e w' => e = .returned (.bool false) ∧ w' = w := by
  go_enter Try.func10, Try.ntmps10
  go_wp2
  all_goals (go_ret; exact ⟨rfl, rfl⟩)

theorem Try.info27 : (Try.prog.info? 27).map (fun i => (i.zero, i.size, i.bytes)) = some (some (.int .u64 0), 1, 8) := by kernel_rfl
theorem Try.size27 : (Try.prog.info? 27).map (·.size) = some 1 := by kernel_rfl

/-- 'zzc := make([]uint64, len(bits)); copy(zzc, bits)': the copy goes through; nothing old is written. -/
theorem lit_of (zs : List Int) (len j : Nat) (v : Value) (h : (List.map (fun n => Value.int IntKind.u64 n) (zs.take len))[j]? = some v) : j < zs.length ∧ v = .int .u64 (zs.getD j 0) := by
  simp only [List.getElem?_map, Option.map_eq_some_iff] at h
  obtain ⟨x, hx, rfl⟩ := h
  rw [List.getElem?_take] at hx
  split at hx
  · obtain ⟨h1, h2⟩ := List.getElem?_eq_some_iff.1 hx
    exact ⟨h1, by simp [List.getD, List.getElem?_eq_getElem h1, h2]⟩
  · cases hx
theorem copy_run (x : Addr) (len cap : Nat) (zs : List Int) (w : World) (hlc : len ≤ cap) (hz : zs.length = cap) (hc : ∀ j, j < zs.length → w.cell? (x.add j) = some (.int .u64 (zs.getD j 0))) :
    ∃ w2, (Builtin.copy_ #[22, 22] 3 #[.slice (some ⟨w.heap.size, 0, none⟩) len len, .slice (some x) len cap]).run Try.prog (w.alloc (.cells (madeCells #[.int .u64 0] len) 27)) = .ok (.int .i64 len) w2 ∧ Below w.heap.size w w2 := by
  have hb : Below w.heap.size w (w.alloc (.cells (madeCells #[.int .u64 0] len) 27)) := (Below.refl _ _).alloc (Nat.le_refl _) _
  have hl : ((zs.take len).map (fun n => Value.int IntKind.u64 n)).length = len := by simp; omega
  have hr := run_copy_row Try.prog (w.alloc (.cells (madeCells #[.int .u64 0] len) 27)) 22 22 3 27 w.heap.size 0 len len x len cap (madeCells #[.int .u64 0] len) 27 ((zs.take len).map (fun n => .int .u64 n))
    Try.underlying22 Try.size27 (by show (w.heap.push _)[w.heap.size]? = _; simp) (by rw [hl]; simp) (fun j v hj => by obtain ⟨h1, rfl⟩ := lit_of zs len j v hj; exact cell_later hb (hc j h1))
    (by rw [hl, size_madeCells]; omega) (fun v hv => by obtain ⟨n, _, rfl⟩ := List.mem_map.1 hv; rfl)
  rw [hl] at hr
  exact ⟨_, hr, below_setRow hb (Nat.le_refl _) _⟩

/-! ### modulo 2^64 -/
theorem firstV_eq (i c : Int) : firstV i c = (i * c) % 18446744073709551616 := by
  unfold firstV
  simp only [IntKind.wrap_u64]
  rw [← Int.mul_emod]
theorem step_eq (i c : Int) : IntKind.u64.wrap (firstV (i + 1) c - firstV i c) = IntKind.u64.wrap c := by
  rw [firstV_eq, firstV_eq]
  simp only [IntKind.wrap_u64]
  rw [← Int.sub_emod, Int.add_mul, Int.one_mul]
  congr 1
  omega
/-- Two ballots' gap, j * c within 64 bits. -/
theorem firstV_small (i j c : Int) (hc : 0 ≤ c) (hi : 0 ≤ i) (hij : i ≤ j) (h : j * c ≤ 18446744073709551615) : firstV i c = i * c := by
  have h1 : 0 ≤ i * c := Int.mul_nonneg hi hc
  have h2 : i * c ≤ j * c := Int.mul_le_mul_of_nonneg_right hij hc
  rw [firstV_eq, Int.emod_eq_of_lt h1 (by omega)]
theorem gap_le (i j c : Int) (hc : 0 ≤ c) (hi : 0 ≤ i) (hij : i < j) (h : j * c ≤ 18446744073709551615) : IntKind.u64.wrap (firstV i c + c) ≤ firstV j c := by
  have h1 : 0 ≤ i * c := Int.mul_nonneg hi hc
  have h2 : (i + 1) * c ≤ j * c := Int.mul_le_mul_of_nonneg_right (by omega) hc
  rw [Int.add_mul, Int.one_mul] at h2
  rw [firstV_small i j c hc hi (by omega) h, firstV_small j j c hc (by omega) (Int.le_refl _) h, IntKind.wrap_u64, Int.emod_eq_of_lt (by omega) (by omega)]
  exact h2
theorem gap_eq (i j c : Int) : IntKind.u64.wrap (firstV j c - firstV i c) = IntKind.u64.wrap ((j - i) * c) := by
  rw [firstV_eq, firstV_eq]
  simp only [IntKind.wrap_u64]
  rw [← Int.sub_emod, Int.sub_mul]
theorem prod_within (j c : Int) (hc : 0 < c) (h : j ≤ 18446744073709551615 / c) : j * c ≤ 18446744073709551615 := (Int.le_ediv_iff_mul_le hc).1 h
theorem prod_zero (j c : Int) (h0 : 0 ≤ c) (h1 : c ≤ 0) : j * c ≤ 18446744073709551615 := by
  have e : c = 0 := by omega
  rw [e, Int.mul_zero]; omega
theorem ret_true {b : Bool} (h : b = true) : Ending.returned (.bool b) = .returned (.bool true) := by rw [h]

/-- What a well formed int64 or int is. -/
theorem i64_bounds {x : Int} (h : (Lit.int .i64 x).wf = true) : -9223372036854775808 ≤ x ∧ x ≤ 9223372036854775807 := by
  simp [Lit.wf, IntKind.min, IntKind.max, IntKind.signed, IntKind.bits] at h
  omega
end Go.Proofs.Qxb6613229a
