/-
  Seat b6613229a. zzBytes (15), NewCount (17), zzCountFresh (18) BY CONTRACT.
-/
import Derived.Test.Qxb6613229aClone
import Derived.Deep.QuietTactic
import Derived.BigQuiet
import Derived.WalkSmall
import Derived.LaidEqlPtr
import Derived.Laws.Pointers
namespace Go.Proofs.Qxb6613229a
open Go.RowKit

theorem bytes15_true (s : Int) (p : Option Addr) (l k : Nat) (w : World) (h : l ≤ 1048576) :
    Calls Try.prog 15 #[.int .i64 s, .slice p l k] w fun e w' => e = .returned (.bool true) ∧ w' = w := by
  go_enter Try.func15, Try.ntmps15
  go_wp2
  all_goals (go_ret; exact ⟨rfl, rfl⟩)
theorem bytes15_false (s : Int) (p : Option Addr) (l k : Nat) (w : World) (h : 1048576 < l) :
    Calls Try.prog 15 #[.int .i64 s, .slice p l k] w fun e w' => e = .returned (.bool false) ∧ w' = w := by
  go_enter Try.func15, Try.ntmps15
  go_wp2
  all_goals (go_ret; exact ⟨rfl, rfl⟩)

/-- What a new count holds: the seats, the totals, three noughts (Ballots), five noughts (Votes). -/
theorem newCount_any (s : Int) (p : Option Addr) (l k : Nat) (w : World) :
    Calls Try.prog 17 #[.int .i64 s, .slice p l k] w fun e w' => e = .returned (.pointer (some ⟨w.heap.size, 0, none⟩)) ∧
      w' = w.alloc (.cells #[.int .i64 s, .slice p l k, .int .i64 0, .int .i64 0, .int .i64 0, .int .i64 0, .int .i64 0, .int .i64 0, .int .i64 0, .int .i64 0] 48) := by
  go_enter Try.func17, Try.ntmps17
  go_wp2
  go_ret
  exact ⟨rfl, rfl⟩

theorem eql44 (w : World) : (binOp .eql 44 (.agg #[.int .i64 0, .int .i64 0, .int .i64 0]) (.agg #[.int .i64 0, .int .i64 0, .int .i64 0])).run Try.prog w = .ok (.bool true) w := by kernel_rfl
theorem eql46 (w : World) : (binOp .eql 46 (.agg #[.int .i64 0, .int .i64 0, .int .i64 0, .int .i64 0, .int .i64 0]) (.agg #[.int .i64 0, .int .i64 0, .int .i64 0, .int .i64 0, .int .i64 0])).run Try.prog w = .ok (.bool true) w := by kernel_rfl

/-- A count as NewCount left it, at block g. -/
structure Fresh (w : World) (g : Nat) (s : Int) (v : Value) : Prop where
  c0 : w.cell? ⟨g, 0, none⟩ = some (.int .i64 s)
  c1 : w.cell? ⟨g, 1, none⟩ = some v
  c2 : w.cell? ⟨g, 2, none⟩ = some (.int .i64 0)
  c3 : w.cell? ⟨g, 3, none⟩ = some (.int .i64 0)
  c4 : w.cell? ⟨g, 4, none⟩ = some (.int .i64 0)
  c5 : w.cell? ⟨g, 5, none⟩ = some (.int .i64 0)
  c6 : w.cell? ⟨g, 6, none⟩ = some (.int .i64 0)
  c7 : w.cell? ⟨g, 7, none⟩ = some (.int .i64 0)
  c8 : w.cell? ⟨g, 8, none⟩ = some (.int .i64 0)
  c9 : w.cell? ⟨g, 9, none⟩ = some (.int .i64 0)

set_option maxHeartbeats 1000000 in
theorem fresh_nil (g : Nat) (s : Int) (w : World) (hF : Fresh w g s (.slice none 0 0)) :
    Calls Try.prog 18 #[.pointer (some ⟨g, 0, none⟩), .int .i64 s, .slice none 0 0] w fun e w' => e = .returned (.bool true) ∧ ∃ m, w' = w.drewN m := by
  have n1 := fun (w : World) => Lib.run_eql_slice_nil (P := Try.prog) w 36 2 none 0 0 0 0 Try.underlying36
  have n2 := fun (w : World) => Lib.run_eql_slice_nil (P := Try.prog) w 41 2 none 0 0 0 0 Try.underlying41
  have e44 := eql44
  have e46 := eql46
  obtain ⟨c0, c1, c2, c3, c4, c5, c6, c7, c8, c9⟩ := hF
  go_enter Try.func18, Try.ntmps18
  go_wp2
  go_loop [7] (fun i => i = .int .i64 0) (fun _ => 0)
  case atStart => rfl
  case round =>
    subst hrel
    go_wp2
    go_ret
    exact ⟨rfl, 0, rfl⟩

set_option maxHeartbeats 1000000 in
theorem fresh_some (g t u : Nat) (n : Nat) (zs : List Int) (s : Int) (w : World) (hn : n ≤ 131072) (hF : Fresh w g s (.slice (some ⟨t, 0, none⟩) n n))
    (h1 : ∀ j, j < n → w.cell? ⟨t, j, none⟩ = some (.int .i64 (zs.getD j 0))) (h2 : ∀ j, j < n → w.cell? ⟨u, j, none⟩ = some (.int .i64 (zs.getD j 0))) :
    Calls Try.prog 18 #[.pointer (some ⟨g, 0, none⟩), .int .i64 s, .slice (some ⟨u, 0, none⟩) n n] w fun e w' => e = .returned (.bool true) ∧ ∃ m, w' = w.drewN m := by
  have n1 := fun (w : World) => Lib.run_eql_slice_nil (P := Try.prog) w 36 2 (some ⟨u, 0, none⟩) n n 0 0 Try.underlying36
  have n2 := fun (w : World) => Lib.run_eql_slice_nil (P := Try.prog) w 41 2 (some ⟨t, 0, none⟩) n n 0 0 Try.underlying41
  have e44 := eql44
  have e46 := eql46
  obtain ⟨c0, c1, c2, c3, c4, c5, c6, c7, c8, c9⟩ := hF
  have H1 : Hid (∀ j, j < n → w.cell? ⟨t, j, none⟩ = some (.int .i64 (zs.getD j 0))) := h1
  have H2 : Hid (∀ j, j < n → w.cell? ⟨u, j, none⟩ = some (.int .i64 (zs.getD j 0))) := h2
  clear h1 h2
  go_enter Try.func18, Try.ntmps18
  go_wp2
  go_loopw [7] (fun i wr => ∃ k : Nat, k ≤ n ∧ i = .int .i64 k ∧ ∃ m, wr = w.drewN m) (fun i _ => n - (intOf i).toNat)
  case atStart => exact ⟨0, Nat.zero_le _, rfl, 0, rfl⟩
  case round =>
    obtain ⟨k, hk, rfl, m, rfl⟩ := hrel
    by_cases hlt : k < n
    · have g1 := H1.out k hlt
      have g2 := H2.out k hlt
      go_wp2
      go_quiet (fail)
      go_wp2
      exact ⟨⟨k + 1, by omega, by go_num, _, rfl⟩, by simp [intOf]; omega⟩
    · go_wp2
      go_ret
      exact ⟨rfl, m, rfl⟩

/-! ### Two counts lie in two blocks -/
theorem heap_new (w : World) (o : Obj) (k : Nat) (h : k = w.heap.size) : (w.alloc o).heap[k]? = some o := by
  rw [h]
  show (w.heap.push o)[w.heap.size]? = some o
  simp
theorem heap_old (w : World) (o : Obj) (k : Nat) (h : k < w.heap.size) : (w.alloc o).heap[k]? = w.heap[k]? := by
  show (w.heap.push o)[k]? = _
  rw [Array.getElem?_push, if_neg (by omega)]
theorem Try.size48 : (Try.prog.info? 48).map (·.size) = some 10 := by kernel_rfl
theorem counts_differ (w : World) (ca cb : Array Value) :
    (binOp .eql 39 (.pointer (some ⟨w.heap.size, 0, none⟩)) (.pointer (some ⟨w.heap.size + 1, 0, none⟩))).run Try.prog ((w.alloc (.cells ca 48)).alloc (.cells cb 48)) = .ok (.bool false) ((w.alloc (.cells ca 48)).alloc (.cells cb 48)) := by
  obtain ⟨t, ht, hs⟩ := Option.map_eq_some_iff.1 Try.size48
  exact run_eql_ptr_other _ Try.underlying39 ht (by rw [hs]; decide) (by intro e; injection e with e1; omega)
    ((heap_old _ _ _ (by simp)).trans (heap_new _ _ _ rfl)) (heap_new _ _ _ (by simp))
end Go.Proofs.Qxb6613229a
