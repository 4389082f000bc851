/-
  Seat b6613108aF. The walk of FnTooLongFreshAndAgreesWithRefuse (function 3).
-/
import Derived.Test.Qxb6613108aFmtRefuse
import Derived.Deep.QuietTactic
import Derived.BigQuiet
import Derived.Below
import Derived.WalkSmall
namespace Go.Proofs.Qxb6613108aFmt
open Go.RowKit Go.Extern.Stop Go.Stop Go.Extern

/-- The three refusals lie in three blocks. -/
theorem three_differ (w : World) (o1 o2 : Obj) (c1 c2 c3 : Array Value) :
    (binOp .eql 23 (.pointer (some ⟨w.heap.size + 1, 0, none⟩)) (.pointer (some ⟨w.heap.size + 1 + 1 + 1, 0, none⟩))).run Tryf.prog (((((w.alloc o1).alloc (.cells c1 28)).alloc o2).alloc (.cells c2 28)).alloc (.cells c3 28)).drew.drew.drew =
      .ok (.bool false) (((((w.alloc o1).alloc (.cells c1 28)).alloc o2).alloc (.cells c2 28)).alloc (.cells c3 28)).drew.drew.drew ∧
    (binOp .eql 23 (.pointer (some ⟨w.heap.size + 1, 0, none⟩)) (.pointer (some ⟨w.heap.size + 1 + 1 + 1 + 1, 0, none⟩))).run Tryf.prog (((((w.alloc o1).alloc (.cells c1 28)).alloc o2).alloc (.cells c2 28)).alloc (.cells c3 28)).drew.drew.drew =
      .ok (.bool false) (((((w.alloc o1).alloc (.cells c1 28)).alloc o2).alloc (.cells c2 28)).alloc (.cells c3 28)).drew.drew.drew ∧
    (binOp .eql 23 (.pointer (some ⟨w.heap.size + 1 + 1 + 1, 0, none⟩)) (.pointer (some ⟨w.heap.size + 1 + 1 + 1 + 1, 0, none⟩))).run Tryf.prog (((((w.alloc o1).alloc (.cells c1 28)).alloc o2).alloc (.cells c2 28)).alloc (.cells c3 28)).drew.drew.drew =
      .ok (.bool false) (((((w.alloc o1).alloc (.cells c1 28)).alloc o2).alloc (.cells c2 28)).alloc (.cells c3 28)).drew.drew.drew := by
  have k1 : (((((w.alloc o1).alloc (.cells c1 28)).alloc o2).alloc (.cells c2 28)).alloc (.cells c3 28)).heap[w.heap.size + 1]? = some (.cells c1 28) :=
    (heap_old _ _ _ (by simp)).trans ((heap_old _ _ _ (by simp)).trans ((heap_old _ _ _ (by simp)).trans (heap_at _ _ _ (by simp))))
  have k2 : (((((w.alloc o1).alloc (.cells c1 28)).alloc o2).alloc (.cells c2 28)).alloc (.cells c3 28)).heap[w.heap.size + 1 + 1 + 1]? = some (.cells c2 28) :=
    (heap_old _ _ _ (by simp)).trans (heap_at _ _ _ (by simp))
  have k3 : (((((w.alloc o1).alloc (.cells c1 28)).alloc o2).alloc (.cells c2 28)).alloc (.cells c3 28)).heap[w.heap.size + 1 + 1 + 1 + 1]? = some (.cells c3 28) := heap_at _ _ _ (by simp)
  exact ⟨eql_other _ _ _ (by omega) _ _ k1 k2, eql_other _ _ _ (by omega) _ _ k1 k3, eql_other _ _ _ (by omega) _ _ k2 k3⟩

set_option maxHeartbeats 1000000 in
theorem long_big (a b f : ByteArray) (w : World) (h : 1048576 < a.size + b.size + f.size) :
    Calls Tryf.prog 3 #[.string a, .string b, .string f] w fun e w' => e = .returned (.bool true) ∧ Below w.heap.size w w' := by
  go_enter Tryf.func3, Tryf.ntmps3
  go_wp2_with (go_at_call 5; refine (bytes5_false a b f _ h).mono ?_; rintro e w' ⟨rfl, rfl⟩)
  go_ret
  exact ⟨rfl, Below.refl _ _⟩

set_option maxHeartbeats 1000000 in
theorem long_small (F : Interp) (a b f : ByteArray) (w : World) (hF : F.answers w.tape) (h : a.size + b.size + f.size ≤ 1048576) :
    Calls Tryf.prog 3 #[.string a, .string b, .string f] w fun e w' => e = .returned (.bool true) ∧ Below w.heap.size w w' := by
  have la : a.size ≤ 1048576 := by omega
  have lb : b.size ≤ 1048576 := by omega
  have lf : f.size ≤ 1048576 := by omega
  go_enter Tryf.func3, Tryf.ntmps3
  go_wp2_with fail
  refine (bytes5_true a b f _ h).mono ?_
  rintro e w' ⟨rfl, rfl⟩
  go_wp2_with fail
  refine (zlong_any F a w' hF).mono ?_
  rintro e w1 ⟨o1, m1, rfl, rfl⟩
  go_wp2_with fail
  refine (zlong_any F b _ (by exact hF)).mono ?_
  rintro e w2 ⟨o2, m2, rfl, rfl⟩
  go_wp2_with fail
  refine (zrefuse_any F _ f _ (by exact hF)).mono ?_
  rintro e w3 ⟨m3, rfl, rfl⟩
  obtain ⟨e1, e2, e3⟩ := three_differ w' o1 o2 #[.string ⟨#[105, 110, 118, 97, 108, 105, 100, 95, 111, 114, 100, 101, 114]⟩, .string m1, .string ⟨#[]⟩] #[.string ⟨#[105, 110, 118, 97, 108, 105, 100, 95, 111, 114, 100, 101, 114]⟩, .string m2, .string ⟨#[]⟩] #[.string ⟨#[105, 110, 118, 97, 108, 105, 100, 95, 111, 114, 100, 101, 114]⟩, .string m3, .string ⟨#[]⟩]
  go_wp2
  go_quiet (fail)
  go_wp2
  go_ret
  refine ⟨rfl, Below.setCell (Below.setCell (below_drewN ?_ _) (by simp) _) (by simp) _⟩
  exact (((((Below.refl _ w').alloc (Nat.le_refl _) _).alloc (by simp) _).alloc (by simp; omega) _).alloc (by simp; omega) _).alloc (by simp; omega) _

/-- FnTooLongFreshAndAgreesWithRefuse answers true, whatever the texts. -/
theorem long_walk (F : Interp) (a b f : ByteArray) (w : World) (hF : F.answers w.tape) :
    Calls Tryf.prog 3 #[.string a, .string b, .string f] w fun e w' => e = .returned (.bool true) ∧ Below w.heap.size w w' := by
  by_cases h : a.size + b.size + f.size ≤ 1048576
  · exact long_small F a b f w hF h
  · exact long_big a b f w (by omega)
end Go.Proofs.Qxb6613108aFmt
