/-
  Seat b6613229a. The walk of FnNewCountFreshAndEmpty (function 6).
-/
import Derived.Test.Qxb6613229aCount
namespace Go.Proofs.Qxb6613229a
open Go.RowKit

set_option maxHeartbeats 1000000 in
theorem count_big (s : Int) (p : Option Addr) (l k : Nat) (w : World) (h : 131072 < l) :
    Calls Try.prog 6 #[.int .i64 s, .slice p l k] w fun e w' => e = .returned (.bool true) ∧ Below w.heap.size w w' := by
  by_cases hl : l ≤ 1048576
  · go_enter Try.func6, Try.ntmps6
    go_wp2_with (go_at_call 15; refine (bytes15_true s p l k _ hl).mono ?_; rintro e w' ⟨rfl, rfl⟩)
    go_ret
    exact ⟨rfl, Below.refl _ _⟩
  · go_enter Try.func6, Try.ntmps6
    go_wp2_with (go_at_call 15; refine (bytes15_false s p l k _ (by omega)).mono ?_; rintro e w' ⟨rfl, rfl⟩)
    go_ret
    exact ⟨rfl, Below.refl _ _⟩

/-- The two counts in the world behind both calls of NewCount. -/
theorem two_fresh (w : World) (s : Int) (v : Value) (m : Nat) :
    Fresh (((w.alloc (.cells #[.int .i64 s, v, .int .i64 0, .int .i64 0, .int .i64 0, .int .i64 0, .int .i64 0, .int .i64 0, .int .i64 0, .int .i64 0] 48)).alloc (.cells #[.int .i64 s, v, .int .i64 0, .int .i64 0, .int .i64 0, .int .i64 0, .int .i64 0, .int .i64 0, .int .i64 0, .int .i64 0] 48)).drewN m) w.heap.size s v ∧
    Fresh (((w.alloc (.cells #[.int .i64 s, v, .int .i64 0, .int .i64 0, .int .i64 0, .int .i64 0, .int .i64 0, .int .i64 0, .int .i64 0, .int .i64 0] 48)).alloc (.cells #[.int .i64 s, v, .int .i64 0, .int .i64 0, .int .i64 0, .int .i64 0, .int .i64 0, .int .i64 0, .int .i64 0, .int .i64 0] 48)).drewN m) (w.heap.size + 1) s v := by
  constructor <;> constructor <;> simp [go_sem]

set_option maxHeartbeats 1000000 in
theorem count_nil (s : Int) (w : World) :
    Calls Try.prog 6 #[.int .i64 s, .slice none 0 0] w fun e w' => e = .returned (.bool true) ∧ Below w.heap.size w w' := by
  have hne := counts_differ w #[.int .i64 s, .slice none 0 0, .int .i64 0, .int .i64 0, .int .i64 0, .int .i64 0, .int .i64 0, .int .i64 0, .int .i64 0, .int .i64 0] #[.int .i64 s, .slice none 0 0, .int .i64 0, .int .i64 0, .int .i64 0, .int .i64 0, .int .i64 0, .int .i64 0, .int .i64 0, .int .i64 0]
  have e44 := eql44
  have e46 := eql46
  go_enter Try.func6, Try.ntmps6
  go_wp2_with fail
  refine (bytes15_true s none 0 0 _ (by omega)).mono ?_
  rintro e w' ⟨rfl, rfl⟩
  go_wp2_with fail
  refine (clone_nil _).mono ?_
  rintro e w' ⟨rfl, rfl⟩
  go_wp2_with fail
  refine (clone_nil _).mono ?_
  rintro e w' ⟨rfl, rfl⟩
  go_wp2_with fail
  refine (newCount_any s none 0 0 _).mono ?_
  rintro e w1 ⟨rfl, rfl⟩
  go_wp2_with fail
  refine (newCount_any s none 0 0 _).mono ?_
  rintro e w2 ⟨rfl, rfl⟩
  go_wp2_with fail
  refine (fresh_nil w'.heap.size s _ (two_fresh w' s (.slice none 0 0) 0).1).mono ?_
  rintro e w3 ⟨rfl, m, rfl⟩
  go_wp2_with fail
  refine (fresh_nil (w'.heap.size + 1) s _ (two_fresh w' s (.slice none 0 0) m).2).mono ?_
  rintro e w4 ⟨rfl, m2, rfl⟩
  go_wp2
  go_ret
  exact ⟨rfl, (((below_drewN (((Below.refl _ _).alloc (Nat.le_refl _) _).alloc (by simp) _) _).setCell (by simp) _).setCell (by simp) _).setCell (by simp) _⟩

set_option maxHeartbeats 1000000 in
theorem count_some (s : Int) (x : Addr) (n c : Nat) (zs : List Int) (w : World) (hn : n ≤ 131072) (hz : n ≤ zs.length) (hc : ∀ j, j < zs.length → w.cell? (x.add j) = some (.int .i64 (zs.getD j 0))) :
    Calls Try.prog 6 #[.int .i64 s, .slice (some x) n c] w fun e w' => e = .returned (.bool true) ∧ Below w.heap.size w w' := by
  have e44 := eql44
  have e46 := eql46
  have HC : Hid (∀ j, j < zs.length → w.cell? (x.add j) = some (.int .i64 (zs.getD j 0))) := hc
  clear hc
  go_enter Try.func6, Try.ntmps6
  go_wp2_with fail
  refine (bytes15_true s (some x) n c _ (by omega)).mono ?_
  rintro e w' ⟨rfl, rfl⟩
  go_wp2_with fail
  refine (clone_any x n c zs _ hn hz HC.out).mono ?_
  rintro e w1 ⟨rfl, r1⟩
  have R1 : Hid (Row w' w1 zs n n) := r1
  have z1 : w'.heap.size < w1.heap.size := by have := r1.size; omega
  clear r1
  go_wp2_with fail
  refine (clone_some w'.heap.size 0 n n zs _ hn z1 (fun j hj => by rw [Nat.zero_add]; exact R1.out.done j hj)).mono ?_
  rintro e w2 ⟨rfl, r2⟩
  have R2 : Hid (Row w1 w2 zs n n) := r2
  have z2 : w1.heap.size < w2.heap.size := by have := r2.size; omega
  clear r2
  have hne := counts_differ w2 #[.int .i64 s, (.slice (some ⟨w'.heap.size, 0, none⟩) n n), .int .i64 0, .int .i64 0, .int .i64 0, .int .i64 0, .int .i64 0, .int .i64 0, .int .i64 0, .int .i64 0] #[.int .i64 s, (.slice (some ⟨w'.heap.size, 0, none⟩) n n), .int .i64 0, .int .i64 0, .int .i64 0, .int .i64 0, .int .i64 0, .int .i64 0, .int .i64 0, .int .i64 0]
  go_wp2_with fail
  refine (newCount_any s _ _ _ _).mono ?_
  rintro e w3 ⟨rfl, rfl⟩
  go_wp2_with fail
  refine (newCount_any s _ _ _ _).mono ?_
  rintro e w4 ⟨rfl, rfl⟩
  have hb2 : Below w2.heap.size w2 ((w2.alloc (.cells #[.int .i64 s, (.slice (some ⟨w'.heap.size, 0, none⟩) n n), .int .i64 0, .int .i64 0, .int .i64 0, .int .i64 0, .int .i64 0, .int .i64 0, .int .i64 0, .int .i64 0] 48)).alloc (.cells #[.int .i64 s, (.slice (some ⟨w'.heap.size, 0, none⟩) n n), .int .i64 0, .int .i64 0, .int .i64 0, .int .i64 0, .int .i64 0, .int .i64 0, .int .i64 0, .int .i64 0] 48)) := ((Below.refl _ _).alloc (Nat.le_refl _) _).alloc (by simp) _
  have T1 : Hid (∀ j, j < n → ((w2.alloc (.cells #[.int .i64 s, (.slice (some ⟨w'.heap.size, 0, none⟩) n n), .int .i64 0, .int .i64 0, .int .i64 0, .int .i64 0, .int .i64 0, .int .i64 0, .int .i64 0, .int .i64 0] 48)).alloc (.cells #[.int .i64 s, (.slice (some ⟨w'.heap.size, 0, none⟩) n n), .int .i64 0, .int .i64 0, .int .i64 0, .int .i64 0, .int .i64 0, .int .i64 0, .int .i64 0, .int .i64 0] 48)).cell? ⟨w'.heap.size, j, none⟩ = some (.int .i64 (zs.getD j 0))) :=
    fun j hj => cell_later hb2 ((R2.out.old.cell (p := ⟨w'.heap.size, j, none⟩) z1).trans (R1.out.done j hj))
  have T2 : Hid (∀ j, j < n → ((w2.alloc (.cells #[.int .i64 s, (.slice (some ⟨w'.heap.size, 0, none⟩) n n), .int .i64 0, .int .i64 0, .int .i64 0, .int .i64 0, .int .i64 0, .int .i64 0, .int .i64 0, .int .i64 0] 48)).alloc (.cells #[.int .i64 s, (.slice (some ⟨w'.heap.size, 0, none⟩) n n), .int .i64 0, .int .i64 0, .int .i64 0, .int .i64 0, .int .i64 0, .int .i64 0, .int .i64 0, .int .i64 0] 48)).cell? ⟨w1.heap.size, j, none⟩ = some (.int .i64 (zs.getD j 0))) :=
    fun j hj => cell_later hb2 (R2.out.done j hj)
  have HB : Hid (Below w'.heap.size w' ((w2.alloc (.cells #[.int .i64 s, (.slice (some ⟨w'.heap.size, 0, none⟩) n n), .int .i64 0, .int .i64 0, .int .i64 0, .int .i64 0, .int .i64 0, .int .i64 0, .int .i64 0, .int .i64 0] 48)).alloc (.cells #[.int .i64 s, (.slice (some ⟨w'.heap.size, 0, none⟩) n n), .int .i64 0, .int .i64 0, .int .i64 0, .int .i64 0, .int .i64 0, .int .i64 0, .int .i64 0, .int .i64 0] 48))) := (R1.out.old.trans (R2.out.old.mono (by omega))).trans (hb2.mono (by omega))
  clear hb2
  go_wp2_with fail
  refine (fresh_some w2.heap.size w'.heap.size w1.heap.size n zs s _ hn (two_fresh w2 s (.slice (some ⟨w'.heap.size, 0, none⟩) n n) 0).1 T1.out T2.out).mono ?_
  rintro e w5 ⟨rfl, m, rfl⟩
  go_wp2_with fail
  refine (fresh_some (w2.heap.size + 1) w'.heap.size w1.heap.size n zs s _ hn (two_fresh w2 s (.slice (some ⟨w'.heap.size, 0, none⟩) n n) m).2 (fun j hj => T1.out j hj) (fun j hj => T2.out j hj)).mono ?_
  rintro e w6 ⟨rfl, m2, rfl⟩
  go_wp2
  go_ret
  exact ⟨rfl, (((below_drewN HB.out _).setCell (by simp; omega) _).setCell (by simp; omega) _).setCell (by simp; omega) _⟩
end Go.Proofs.Qxb6613229a
