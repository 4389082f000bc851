/-
  Seat b6613108a. THE PLAIN ARITHMETIC: sums and products by limbs of 32 bits. No Go in sight but the model's own 'bits'.
-/
import Derived.Test.Qxb6613108aUnits
namespace Go.Proofs.Qxb6613108a

/-- 'x & 0xffffffff' of a word. -/
theorem low32 (x : Int) (h : Word x) : bits .and .u64 x 4294967295 = x % 4294967296 := by
  obtain ⟨h0, h1⟩ := h
  rw [u64_and x 4294967295 h0 h1 (by decide) (by decide)]
  have e : x.toNat &&& (4294967295 : Int).toNat = x.toNat % 4294967296 := nat_mask32 _
  rw [e]; omega
/-- 'lo | hi << 32' of two limbs. -/
theorem join32 (x y : Int) (h0 : 0 ≤ x) (h1 : x < 4294967296) (h2 : 0 ≤ y) (h3 : y < 4294967296) : bits .or .u64 x (IntKind.u64.wrap (y * 4294967296)) = x + y * 4294967296 := by
  rw [IntKind.wrap_u64, Int.emod_eq_of_lt (by omega) (by omega), u64_or x (y * 4294967296) h0 (by omega) (by omega) (by omega), Nat.or_comm]
  have e := nat_join 32 (y * 4294967296).toNat x.toNat (by omega) (by omega)
  rw [e]; omega

/-! ### The law's own steps, as the walk writes them -/
def join (p q : Int) : Int := bits .or .u64 (bits .and .u64 p 4294967295) (IntKind.u64.wrap (bits .and .u64 q 4294967295 * 4294967296))
theorem join_eq (p q : Int) (hp : Word p) (hq : Word q) : join p q = p % 4294967296 + q % 4294967296 * 4294967296 := by
  unfold join
  rw [low32 p hp, low32 q hq, join32 _ _ (by omega) (by omega) (by omega) (by omega)]
/-- '(x & m) + (y & m)'. -/
def lows (x y : Int) : Int := IntKind.u64.wrap (bits .and .u64 x 4294967295 + bits .and .u64 y 4294967295)
theorem lows_eq (x y : Int) (hx : Word x) (hy : Word y) : lows x y = x % 4294967296 + y % 4294967296 := by
  unfold lows
  rw [low32 x hx, low32 y hy, IntKind.wrap_u64, Int.emod_eq_of_lt (by omega) (by omega)]
/-- '(x >> 32) + (y >> 32) + (c >> 32)'. -/
def highs (x y c : Int) : Int := IntKind.u64.wrap (IntKind.u64.wrap (x / 4294967296 + y / 4294967296) + c / 4294967296)
theorem highs_eq (x y c : Int) (hx : Word x) (hy : Word y) (hc : Word c) : highs x y c = x / 4294967296 + y / 4294967296 + c / 4294967296 := by
  obtain ⟨_, _⟩ := hx; obtain ⟨_, _⟩ := hy; obtain ⟨_, _⟩ := hc
  unfold highs
  simp only [IntKind.wrap_u64]; omega
/-- '(x & m) + (y & m) + (c >> 32)'. -/
def lows3 (x y c : Int) : Int := IntKind.u64.wrap (lows x y + c / 4294967296)
theorem lows3_eq (x y c : Int) (hx : Word x) (hy : Word y) (hc : Word c) : lows3 x y c = x % 4294967296 + y % 4294967296 + c / 4294967296 := by
  obtain ⟨_, _⟩ := hc
  unfold lows3
  rw [lows_eq x y hx hy, IntKind.wrap_u64, Int.emod_eq_of_lt (by omega) (by omega)]

theorem carry_out (al bl : Int) : (al / 4294967296 + bl / 4294967296 + (al % 4294967296 + bl % 4294967296) / 4294967296) / 4294967296 = (al + bl) / 18446744073709551616 := by omega
theorem limbs_with (x y c : Int) : (x % 4294967296 + y % 4294967296 + c) % 4294967296 + (x / 4294967296 + y / 4294967296 + (x % 4294967296 + y % 4294967296 + c) / 4294967296) % 4294967296 * 4294967296 = (x + y + c) % 18446744073709551616 := by omega
theorem wlo_eq (al bl : Int) (h2 : Word al) (h4 : Word bl) : sumLo al bl = join (lows al bl) (highs al bl (lows al bl)) := by
  have e0 := lows_eq al bl h2 h4
  have k0 : Word (lows al bl) := by rw [e0]; exact ⟨by omega, by omega⟩
  have e1 := highs_eq al bl _ h2 h4 k0
  obtain ⟨_, _⟩ := h2; obtain ⟨_, _⟩ := h4
  have k1 : Word (highs al bl (lows al bl)) := by rw [e1, e0]; exact ⟨by omega, by omega⟩
  rw [join_eq _ _ k0 k1, e1, e0]; unfold sumLo; omega
theorem whi_eq (ah al bh bl : Int) (h1 : Word ah) (h2 : Word al) (h3 : Word bh) (h4 : Word bl) :
    sumHi ah al bh bl = join (lows3 ah bh (highs al bl (lows al bl))) (highs ah bh (lows3 ah bh (highs al bl (lows al bl)))) := by
  have e0 := lows_eq al bl h2 h4
  have k0 : Word (lows al bl) := by rw [e0]; exact ⟨by omega, by omega⟩
  have e1 := highs_eq al bl _ h2 h4 k0
  rw [e0] at e1
  obtain ⟨_, _⟩ := id h1; obtain ⟨_, _⟩ := id h2; obtain ⟨_, _⟩ := id h3; obtain ⟨_, _⟩ := id h4
  have k1 : Word (highs al bl (lows al bl)) := by rw [e0, e1]; exact ⟨by omega, by omega⟩
  have e2 := lows3_eq ah bh _ h1 h3 k1
  have k2 : Word (lows3 ah bh (highs al bl (lows al bl))) := by rw [e2, e0, e1]; exact ⟨by omega, by omega⟩
  have e3 := highs_eq ah bh _ h1 h3 k2
  have k3 : Word (highs ah bh (lows3 ah bh (highs al bl (lows al bl)))) := by rw [e3, e2, e0, e1]; exact ⟨by omega, by omega⟩
  rw [join_eq _ _ k2 k3, e3, e2, e0, e1, carry_out, limbs_with]; rfl
end Go.Proofs.Qxb6613108a
