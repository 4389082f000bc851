/-
  Seat b6613229a. zzCloneI64 (16) BY CONTRACT: nil gives nil; any other slice gives a new row of the same numbers; nothing old is written.
-/
import Derived.Test.Qxb6613229aRows
import Derived.WalkKit
import Derived.WalkSpells
import Derived.Below
import Derived.Deep.OwnRows
import Derived.OpenShut
namespace Go.Proofs.Qxb6613229a
open Go.RowKit

theorem Try.info2 : (Try.prog.info? 2).map (fun i => (i.zero, i.size, i.bytes)) = some (some (.int .i64 0), 1, 8) := by kernel_rfl

theorem clone_nil (w : World) : Calls Try.prog 16 #[.slice none 0 0] w fun e w' => e = .returned (.slice none 0 0) ∧ w' = w := by
  have hnil := fun (w : World) => Lib.run_eql_slice_nil (P := Try.prog) w 36 2 none 0 0 0 0 Try.underlying36
  go_enter Try.func16, Try.ntmps16
  go_wp2
  go_ret
  exact ⟨rfl, rfl⟩

/-- The new row, 'k' of its 'n' cells written: 'B' is its block, the world's last. -/
structure Row (w wr : World) (zs : List Int) (n k : Nat) : Prop where
  old : Below w.heap.size w wr
  size : wr.heap.size = w.heap.size + 1
  held : ∀ j, j < n → ∃ v, wr.cell? ⟨w.heap.size, j, none⟩ = some v
  free : ∀ j, j < n → wr.frozen? ⟨w.heap.size, j, none⟩ = false
  done : ∀ j, j < k → wr.cell? ⟨w.heap.size, j, none⟩ = some (.int .i64 (zs.getD j 0))

theorem Row.start (w : World) (zs : List Int) (n : Nat) : Row w (w.alloc (.cells (madeCells #[.int .i64 0] n) 2)) zs n 0 := by
  have e : (w.alloc (.cells (madeCells #[.int .i64 0] n) 2)).heap[w.heap.size]? = some (.cells (madeCells #[.int .i64 0] n) 2) := by show (w.heap.push _)[w.heap.size]? = _; simp
  refine ⟨(Below.refl _ _).alloc (Nat.le_refl _) _, by simp, fun j hj => ?_, fun j _ => ?_, fun j hj => by omega⟩
  · exact ⟨(madeCells #[.int .i64 0] n)[j]'(by rw [size_madeCells]; exact hj), by unfold World.cell?; rw [e]; simp [size_madeCells, hj]⟩
  · unfold World.frozen?
    rw [e]
    simp

theorem Row.step {w wr : World} {zs : List Int} {n k : Nat} (r : Row w wr zs n k) (hk : k < n) : Row w (wr.setCell ⟨w.heap.size, k, none⟩ (.int .i64 (zs.getD k 0))) zs n (k + 1) := by
  refine ⟨r.old.setCell (Nat.le_refl _) _, by simpa [World.setCell] using r.size, fun j hj => ?_, fun j hj => by rw [World.frozen?_setCell]; exact r.free j hj, fun j hj => ?_⟩
  · by_cases e : j = k
    · subst e
      obtain ⟨v, hv⟩ := r.held j hj
      exact ⟨_, World.cell?_setCell_same _ _ _ hv⟩
    · obtain ⟨v, hv⟩ := r.held j hj
      exact ⟨v, (World.cell?_setCell_other _ _ _ _ (fun h => e (by injection h with _ h2; exact h2.symm))).trans hv⟩
  · by_cases e : j = k
    · subst e
      obtain ⟨v, hv⟩ := r.held j hk
      exact World.cell?_setCell_same _ _ _ hv
    · exact (World.cell?_setCell_other _ _ _ _ (fun h => e (by injection h with _ h2; exact h2.symm))).trans (r.done j (by omega))

set_option maxHeartbeats 1000000 in
theorem clone_some (b off n c : Nat) (zs : List Int) (w : World) (hn : n ≤ 131072) (hB : b < w.heap.size) (hc : ∀ j, j < n → w.cell? ⟨b, off + j, none⟩ = some (.int .i64 (zs.getD j 0))) :
    Calls Try.prog 16 #[.slice (some ⟨b, off, none⟩) n c] w fun e w' => e = .returned (.slice (some ⟨w.heap.size, 0, none⟩) n n) ∧ Row w w' zs n n := by
  have hnil := fun (w : World) => Lib.run_eql_slice_nil (P := Try.prog) w 36 2 (some ⟨b, off, none⟩) n c 0 0 Try.underlying36
  have hmk := run_make_row' (P := Try.prog) 36 2 (.int .i64 0) 8 Try.underlying36 Try.info2 rfl .i64 .i64 n (by omega) (by omega)
  go_enter Try.func16, Try.ntmps16
  go_wp2
  clear hnil hmk
  go_loopw [4] (fun i wr => ∃ k : Nat, k ≤ n ∧ i = .int .i64 k ∧ Hid (Row w wr zs n k)) (fun i _ => n - (intOf i).toNat)
  case atStart => exact ⟨0, Nat.zero_le _, rfl, Row.start w zs n⟩
  case round =>
    obtain ⟨k, hk, rfl, HR⟩ := hrel
    by_cases hlt : k < n
    · have h1 : wr.cell? ⟨b, off + k, none⟩ = some (.int .i64 (zs.getD k 0)) := (HR.out.old.cell (p := ⟨b, off + k, none⟩) hB).trans (hc k (by omega))
      obtain ⟨v, h2⟩ := HR.out.held k hlt
      have h3 := HR.out.free k hlt
      clear hc
      go_wp2
      exact ⟨⟨k + 1, by omega, by go_num, HR.out.step hlt⟩, by simp [intOf]; omega⟩
    · obtain rfl : k = n := by omega
      go_wp2
      go_ret
      exact ⟨rfl, HR.out⟩

set_option maxHeartbeats 1000000 in
theorem clone_empty (x : Addr) (n c : Nat) (hn : n ≤ 0) (zs : List Int) (w : World) :
    Calls Try.prog 16 #[.slice (some x) n c] w fun e w' => e = .returned (.slice (some ⟨w.heap.size, 0, none⟩) n n) ∧ Row w w' zs n n := by
  have hnil := fun (w : World) => Lib.run_eql_slice_nil (P := Try.prog) w 36 2 (some x) n c 0 0 Try.underlying36
  have hmk := run_make_row' (P := Try.prog) 36 2 (.int .i64 0) 8 Try.underlying36 Try.info2 rfl .i64 .i64 n (by omega) (by omega)
  go_enter Try.func16, Try.ntmps16
  go_wp2
  clear hnil hmk
  go_loopw [4] (fun i wr => ∃ k : Nat, k ≤ n ∧ i = .int .i64 k ∧ Hid (Row w wr zs n k)) (fun i _ => n - (intOf i).toNat)
  case atStart => exact ⟨0, Nat.zero_le _, rfl, Row.start w zs n⟩
  case round =>
    obtain ⟨k, hk, rfl, HR⟩ := hrel
    obtain rfl : k = n := by omega
    go_wp2
    go_ret
    exact ⟨rfl, HR.out⟩

/-- zzCloneI64 at a slice that is not nil. -/
theorem clone_any (x : Addr) (n c : Nat) (zs : List Int) (w : World) (hn : n ≤ 131072) (hz : n ≤ zs.length) (hc : ∀ j, j < zs.length → w.cell? (x.add j) = some (.int .i64 (zs.getD j 0))) :
    Calls Try.prog 16 #[.slice (some x) n c] w fun e w' => e = .returned (.slice (some ⟨w.heap.size, 0, none⟩) n n) ∧ Row w w' zs n n := by
  by_cases h : n ≤ 0
  · exact clone_empty x n c h zs w
  · obtain ⟨b, off, rfl, hc'⟩ := Go.ints_at hc (by omega)
    have hB : b < w.heap.size := World.block_lt_of_cell? _ _ (hc' 0 (by omega))
    exact clone_some b off n c zs w hn hB (fun j hj => hc' j (by omega))
end Go.Proofs.Qxb6613229a
