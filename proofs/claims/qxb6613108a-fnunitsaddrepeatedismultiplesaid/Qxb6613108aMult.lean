/-
  Seat b6613108a. THE PLAIN ARITHMETIC of the repeated sum: what k rounds leave, and the limb-wise product.
-/
import Derived.Test.Qxb6613108aLimbs
namespace Go.Proofs.Qxb6613108a
open Go.RowKit

/-- The two words behind k rounds: k * (ah * 2^64 + al) modulo 2^128. -/
def accLo (al : Int) (k : Nat) : Int := (k * al) % 18446744073709551616
def accHi (ah al : Int) (k : Nat) : Int := (k * ah + k * al / 18446744073709551616) % 18446744073709551616
theorem word_accLo (al : Int) (k : Nat) : Word (accLo al k) := by unfold accLo; exact ⟨by omega, by omega⟩
theorem word_accHi (ah al : Int) (k : Nat) : Word (accHi ah al k) := by unfold accHi; exact ⟨by omega, by omega⟩
theorem acc_lo_step (x y : Int) : (x % 18446744073709551616 + y) % 18446744073709551616 = (x + y) % 18446744073709551616 := by omega
theorem acc_hi_step (x y c d : Int) : ((y + x / 18446744073709551616) % 18446744073709551616 + d + (x % 18446744073709551616 + c) / 18446744073709551616) % 18446744073709551616 = (y + d + (x + c) / 18446744073709551616) % 18446744073709551616 := by omega
theorem mul_succ (k : Nat) (x : Int) : ((k + 1 : Nat) : Int) * x = k * x + x := by
  rw [Int.natCast_add, Int.add_mul]; simp
theorem accLo_succ (al : Int) (k : Nat) : sumLo (accLo al k) al = accLo al (k + 1) := by
  unfold accLo sumLo; rw [mul_succ, acc_lo_step]
theorem accHi_succ (ah al : Int) (k : Nat) : sumHi (accHi ah al k) (accLo al k) ah al = accHi ah al (k + 1) := by
  unfold accHi accLo sumHi; rw [mul_succ, mul_succ, acc_hi_step]
theorem sumLo_comm (x y : Int) : sumLo x y = sumLo y x := by unfold sumLo; rw [Int.add_comm]
theorem sumHi_comm (ah al bh bl : Int) : sumHi ah al bh bl = sumHi bh bl ah al := by
  unfold sumHi; rw [Int.add_comm al bl, Int.add_comm ah bh]

/-- The first call of a round. -/
theorem first_call (ah al : Int) (h1 : Word ah) (h2 : Word al) (k : Nat) (w : World) :
    Calls Try.prog 6 #[.int .u64 (accHi ah al k), .int .u64 (accLo al k), .int .u64 ah, .int .u64 al] w fun e w' =>
      e = .returned (.tuple #[.int .u64 (accHi ah al (k + 1)), .int .u64 (accLo al (k + 1))]) ∧ Grown w w' := by
  have h := zadd_any (accHi ah al k) (accLo al k) ah al (word_accHi _ _ _) (word_accLo _ _) h1 h2 w
  rw [accHi_succ, accLo_succ] at h
  exact h
/-- The second call of a round: the operands the other way round. -/
theorem second_call (ah al : Int) (h1 : Word ah) (h2 : Word al) (k : Nat) (w : World) :
    Calls Try.prog 6 #[.int .u64 ah, .int .u64 al, .int .u64 (accHi ah al k), .int .u64 (accLo al k)] w fun e w' =>
      e = .returned (.tuple #[.int .u64 (accHi ah al (k + 1)), .int .u64 (accLo al (k + 1))]) ∧ Grown w w' := by
  have h := zadd_any ah al (accHi ah al k) (accLo al k) h1 h2 (word_accHi _ _ _) (word_accLo _ _) w
  rw [sumHi_comm, sumLo_comm, accHi_succ, accLo_succ] at h
  exact h
/-! ### The limb-wise product, as the walk writes it -/
def pFirst (x : Int) (n : Nat) : Int := IntKind.u64.wrap (bits .and .u64 x 4294967295 * n)
def pLow (x : Int) (n : Nat) (c : Int) : Int := IntKind.u64.wrap (pFirst x n + c / 4294967296)
def pHigh (x : Int) (n : Nat) (c : Int) : Int := IntKind.u64.wrap (IntKind.u64.wrap (x / 4294967296 * n) + c / 4294967296)
theorem prod_bound (u : Int) (n : Nat) (h0 : 0 ≤ u) (h1 : u < 4294967296) (hn : n < 65536) : 0 ≤ u * n ∧ u * n < 281474976710656 := by
  refine ⟨Int.mul_nonneg h0 (by omega), ?_⟩
  have e : u * (n : Int) ≤ 4294967295 * (n : Int) := Int.mul_le_mul_of_nonneg_right (by omega) (by omega)
  omega
theorem pFirst_eq (x : Int) (n : Nat) (hx : Word x) (hn : n < 65536) : pFirst x n = x % 4294967296 * n := by
  have b := prod_bound (x % 4294967296) n (by omega) (by omega) hn
  unfold pFirst
  rw [low32 x hx, IntKind.wrap_u64, Int.emod_eq_of_lt (by omega) (by omega)]
theorem pLow_eq (x : Int) (n : Nat) (c : Int) (hx : Word x) (hn : n < 65536) (hc : Word c) : pLow x n c = x % 4294967296 * n + c / 4294967296 := by
  have b := prod_bound (x % 4294967296) n (by omega) (by omega) hn
  obtain ⟨_, _⟩ := hc
  unfold pLow
  rw [pFirst_eq x n hx hn, IntKind.wrap_u64, Int.emod_eq_of_lt (by omega) (by omega)]
theorem pHigh_eq (x : Int) (n : Nat) (c : Int) (hx : Word x) (hn : n < 65536) (hc : Word c) : pHigh x n c = x / 4294967296 * n + c / 4294967296 := by
  obtain ⟨_, _⟩ := hx
  have b := prod_bound (x / 4294967296) n (by omega) (by omega) hn
  obtain ⟨_, _⟩ := hc
  unfold pHigh
  rw [IntKind.wrap_u64, IntKind.wrap_u64, Int.emod_eq_of_lt (a := x / 4294967296 * n) (by omega) (by omega), Int.emod_eq_of_lt (by omega) (by omega)]
theorem two_limbs (s t c : Int) : (s + c) % 4294967296 + (t + (s + c) / 4294967296) % 4294967296 * 4294967296 = (s + t * 4294967296 + c) % 18446744073709551616 := by omega
theorem two_limbs_out (s t : Int) : (t + s / 4294967296) / 4294967296 = (s + t * 4294967296) / 18446744073709551616 := by omega
theorem by_limbs (x : Int) (n : Nat) : (n : Int) * x = x % 4294967296 * n + x / 4294967296 * n * 4294967296 := by
  have e : x = x % 4294967296 + x / 4294967296 * 4294967296 := by omega
  calc (n : Int) * x = n * (x % 4294967296 + x / 4294967296 * 4294967296) := by rw [← e]
    _ = _ := by rw [Int.mul_add, Int.mul_comm (n : Int) (x % 4294967296), Int.mul_comm (n : Int) (x / 4294967296 * 4294967296), Int.mul_assoc, Int.mul_comm 4294967296 (n : Int), ← Int.mul_assoc]
theorem word_small {x : Int} (h0 : 0 ≤ x) (h1 : x < 18446744073709551616) : Word x := ⟨h0, h1⟩

theorem plo_eq (al : Int) (n : Nat) (h : Word al) (hn : n < 65536) : accLo al n = join (pFirst al n) (pHigh al n (pFirst al n)) := by
  have e0 := pFirst_eq al n h hn
  have b0 := prod_bound (al % 4294967296) n (by omega) (by omega) hn
  have k0 : Word (pFirst al n) := by rw [e0]; exact ⟨by omega, by omega⟩
  have e1 := pHigh_eq al n _ h hn k0
  obtain ⟨_, _⟩ := id h
  have b1 := prod_bound (al / 4294967296) n (by omega) (by omega) hn
  have k1 : Word (pHigh al n (pFirst al n)) := by rw [e1, e0]; exact ⟨by omega, by omega⟩
  have t := two_limbs (al % 4294967296 * n) (al / 4294967296 * n) 0
  simp only [Int.add_zero] at t
  rw [join_eq _ _ k0 k1, e1, e0, t]; unfold accLo; rw [by_limbs]
theorem phi_eq (ah al : Int) (n : Nat) (h : Word ah) (h' : Word al) (hn : n < 65536) :
    accHi ah al n = join (pLow ah n (pHigh al n (pFirst al n))) (pHigh ah n (pLow ah n (pHigh al n (pFirst al n)))) := by
  have e0 := pFirst_eq al n h' hn
  have b0 := prod_bound (al % 4294967296) n (by omega) (by omega) hn
  have k0 : Word (pFirst al n) := by rw [e0]; exact ⟨by omega, by omega⟩
  have e1 := pHigh_eq al n _ h' hn k0
  obtain ⟨_, _⟩ := id h; obtain ⟨_, _⟩ := id h'
  have b1 := prod_bound (al / 4294967296) n (by omega) (by omega) hn
  rw [e0] at e1
  have k1 : Word (pHigh al n (pFirst al n)) := by rw [e0, e1]; exact ⟨by omega, by omega⟩
  have e2 := pLow_eq ah n _ h hn k1
  rw [e0, e1] at e2
  have b2 := prod_bound (ah % 4294967296) n (by omega) (by omega) hn
  have k2 : Word (pLow ah n (pHigh al n (pFirst al n))) := by rw [e0, e1, e2]; exact ⟨by omega, by omega⟩
  have e3 := pHigh_eq ah n _ h hn k2
  rw [e0, e1, e2] at e3
  have b3 := prod_bound (ah / 4294967296) n (by omega) (by omega) hn
  have k3 : Word (pHigh ah n (pLow ah n (pHigh al n (pFirst al n)))) := by rw [e0, e1, e2, e3]; exact ⟨by omega, by omega⟩
  rw [join_eq _ _ k2 k3, e0, e1, e2, e3, two_limbs_out, two_limbs]
  unfold accHi; rw [by_limbs ah, by_limbs al]
end Go.Proofs.Qxb6613108a
