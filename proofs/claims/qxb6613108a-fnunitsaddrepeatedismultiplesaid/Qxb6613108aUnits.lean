/-
  Seat b6613108a. The walk of ZZunitsAdd (function 6), out of (units).add (13) and math/bits.Add64 (15, which the model stands in for).
-/
import Derived.Test.Qxb6613108aRows
import Derived.WalkKit
import Derived.WalkSpells
import Derived.Laws.Externs
import Derived.Laws.BitsAllLaws
import Derived.RowKit3
namespace Go.Proofs.Qxb6613108a
open Go.RowKit

/-- math/bits.Add64 with no carry in: a law of the call. -/
theorem add64_0 (x y : Int) (hx : 0 ≤ x) (hy : 0 ≤ y) (w : World) : (callFunc 15 #[.int .u64 x, .int .u64 y, .int .u64 0]).run Try.prog w =
    .ok (.value (.tuple #[.int .u64 ((x + y) % 18446744073709551616), .int .u64 ((x + y) / 18446744073709551616)])) w := by
  rw [run_callFunc_extern Try.func15 (by kernel_rfl) (by kernel_rfl) (by kernel_rfl) (e := add64Entry) (by kernel_rfl), run_add64 x y 0 hx hy (Int.le_refl 0) (by decide)]
  simp only [Result.andThen, Int.add_zero]

/-- A word of 64 bits. -/
def Word (x : Int) : Prop := 0 ≤ x ∧ x < 18446744073709551616
theorem word_of_wf {x : Int} (h : (Lit.int .u64 x).wf = true) : Word x := by
  simp [Lit.wf, IntKind.min, IntKind.max, IntKind.signed, IntKind.bits] at h
  exact ⟨by omega, by omega⟩

/-- The sum's high and low word. -/
def sumHi (ah al bh bl : Int) : Int := (ah + bh + (al + bl) / 18446744073709551616) % 18446744073709551616
def sumLo (al bl : Int) : Int := (al + bl) % 18446744073709551616

theorem sumHi_eq (ah al bh bl : Int) : IntKind.u64.wrap (IntKind.u64.wrap (ah + bh) + (al + bl) / 18446744073709551616) = sumHi ah al bh bl := by
  simp only [IntKind.wrap_u64, sumHi]; omega

/-- (units).add. -/
theorem add_any (ah al bh bl : Int) (h1 : Word ah) (h2 : Word al) (h3 : Word bh) (h4 : Word bl) (w : World) :
    Calls Try.prog 13 #[.agg #[.int .u64 ah, .int .u64 al], .agg #[.int .u64 bh, .int .u64 bl]] w fun e w' =>
      e = .returned (.agg #[.int .u64 (sumHi ah al bh bl), .int .u64 (sumLo al bl)]) ∧ ∃ c1 c2 c3 : Array Value, w' = ((w.alloc (.cells c1 39)).alloc (.cells c2 39)).alloc (.cells c3 39) := by
  obtain ⟨a1, a2⟩ := h1; obtain ⟨b1, b2⟩ := h2; obtain ⟨c1, c2⟩ := h3; obtain ⟨d1, d2⟩ := h4
  go_enter Try.func13, Try.ntmps13
  go_wp2_with (simp only [add64_0 al bl b1 d1])
  simp [bodyPost, results, Try.results13, go_sem]
  exact ⟨⟨sumHi_eq ah al bh bl, rfl⟩, _, _, _, rfl⟩

/-- ZZunitsAdd: the sum's two words; four new blocks, or draws, and nothing old is written. -/
theorem zadd_any (ah al bh bl : Int) (h1 : Word ah) (h2 : Word al) (h3 : Word bh) (h4 : Word bl) (w : World) :
    Calls Try.prog 6 #[.int .u64 ah, .int .u64 al, .int .u64 bh, .int .u64 bl] w fun e w' =>
      e = .returned (.tuple #[.int .u64 (sumHi ah al bh bl), .int .u64 (sumLo al bl)]) ∧ Grown w w' := by
  go_enter Try.func6, Try.ntmps6
  go_wp2_with (go_at_call 13; refine (add_any ah al bh bl h1 h2 h3 h4 _).mono ?_; rintro e w' ⟨rfl, o1, o2, o3, rfl⟩)
  go_region
  go_wp2
  go_ret2
  exact ⟨rfl, by repeat (first | exact Grown.refl _ | apply Grown.drew | apply Grown.alloc)⟩

theorem Grown.trans {a b c : World} (h : Grown a b) (k : Grown b c) : Grown a c :=
  ⟨World.keptBut_trans h.1 k.1, fun x => (k.2.1 x).trans (h.2.1 x), Nat.le_trans h.2.2 k.2.2⟩
end Go.Proofs.Qxb6613108a
