/-
  Seat b6613108aF. The walk of FnRefuseFreshEachCall (function 4).
-/
import Derived.Test.Qxb6613108aFmtRefuse
namespace Go.Proofs.Qxb6613108aFmt
open Go.RowKit Go.Extern.Stop Go.Stop Go.Extern

set_option maxHeartbeats 1000000 in
theorem fresh_big (a b f : ByteArray) (w : World) (h : 1048576 < a.size + b.size + f.size) :
    Calls Tryf.prog 4 #[.string a, .string b, .string f] w fun e w' => e = .returned (.bool true) ∧ Grown w w' := by
  go_enter Tryf.func4, Tryf.ntmps4
  go_wp2_with (go_at_call 8; refine (bytes8_false a b f _ h).mono ?_; rintro e w' ⟨rfl, rfl⟩)
  go_ret
  exact ⟨rfl, Grown.refl _⟩

set_option maxHeartbeats 1000000 in
theorem fresh_small (F : Interp) (a b f : ByteArray) (w : World) (hF : F.answers w.tape) (h : a.size + b.size + f.size ≤ 1048576) :
    Calls Tryf.prog 4 #[.string a, .string b, .string f] w fun e w' => e = .returned (.bool true) ∧ Grown w w' := by
  have la : a.size ≤ 1048576 := by omega
  have lb : b.size ≤ 1048576 := by omega
  have lf : f.size ≤ 1048576 := by omega
  go_enter Tryf.func4, Tryf.ntmps4
  go_wp2_with fail
  refine (bytes8_true a b f _ h).mono ?_
  rintro e w' ⟨rfl, rfl⟩
  go_wp2_with fail
  refine (zrefuse_any F a f w' hF).mono ?_
  rintro e w1 ⟨m1, rfl, rfl⟩
  go_wp2_with fail
  refine (zrefuse_any F b f (w'.alloc (.cells #[.string a, .string m1, .string ⟨#[]⟩] 28)).drew (by exact hF)).mono ?_
  rintro e w2 ⟨m2, rfl, rfl⟩
  have hne := eql_other (((w'.alloc (.cells #[.string a, .string m1, .string ⟨#[]⟩] 28)).alloc (.cells #[.string b, .string m2, .string ⟨#[]⟩] 28)).drew.drew) w'.heap.size (w'.heap.size + 1) (by omega) _ _
    ((heap_old _ _ _ (by simp)).trans (heap_new _ _)) (heap_at _ _ _ (by simp))
  go_wp2
  go_ret
  exact ⟨rfl, by repeat (first | exact Grown.refl _ | apply Grown.drew | apply Grown.alloc)⟩

/-- FnRefuseFreshEachCall answers true, whatever the texts. -/
theorem fresh_walk (F : Interp) (a b f : ByteArray) (w : World) (hF : F.answers w.tape) :
    Calls Tryf.prog 4 #[.string a, .string b, .string f] w fun e w' => e = .returned (.bool true) ∧ Grown w w' := by
  by_cases h : a.size + b.size + f.size ≤ 1048576
  · exact fresh_small F a b f w hF h
  · exact fresh_big a b f w (by omega)
end Go.Proofs.Qxb6613108aFmt
