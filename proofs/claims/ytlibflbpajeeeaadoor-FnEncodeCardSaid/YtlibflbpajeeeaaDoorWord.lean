/- Plain: 32-bit words that hold a few bits at their top. No program in sight. -/
import Derived.Test.YtlibflbpajeeeaaDoorBits
import Derived.Laws.BitsAllLaws
namespace Go.Proofs.YtlibflbpajeeeaaDoor

theorem pow_split (a b : Nat) : (2 : Int) ^ (a + b) = 2 ^ a * 2 ^ b := Int.pow_add 2 a b
theorem pow_nat (k : Nat) : ((2 ^ k : Nat) : Int) = 2 ^ k := by norm_cast

theorem scaled_lt (x : Int) (k m : Nat) (hx : 0 ≤ x ∧ x < 2 ^ k) : 0 ≤ x * 2 ^ m ∧ x * 2 ^ m < 2 ^ (k + m) := by
  have hm := pow_pos2 m
  refine ⟨Int.mul_nonneg hx.1 (by omega), ?_⟩
  rw [pow_split]
  exact Int.mul_lt_mul_of_pos_right hx.2 hm
theorem pow_le {a b : Nat} (h : a ≤ b) : (2 : Int) ^ a ≤ 2 ^ b := by
  have := Nat.pow_le_pow_right (show 0 < 2 by decide) h
  have h2 : ((2 ^ a : Nat) : Int) ≤ ((2 ^ b : Nat) : Int) := by exact_mod_cast this
  rwa [pow_nat, pow_nat] at h2

theorem or_disjoint (acc x : Int) (n k : Nat) (ha : 0 ≤ acc ∧ acc < 2 ^ n) (hx : 0 ≤ x ∧ x < 2 ^ k) (hk : k + n ≤ 32) :
    bits BinOp.or IntKind.u32 (x * 2 ^ (32 - (k + n)) % 4294967296) (acc * 2 ^ (32 - n)) = (acc * 2 ^ k + x) * 2 ^ (32 - (k + n)) := by
  have e32 : (4294967296 : Int) = 2 ^ 32 := by decide
  have h1 := scaled_lt x k (32 - (k + n)) hx
  have h2 := scaled_lt acc n (32 - n) ha
  rw [show k + (32 - (k + n)) = 32 - n by omega] at h1
  rw [show n + (32 - n) = 32 by omega] at h2
  have h3 := pow_le (show 32 - n ≤ 32 by omega)
  rw [Int.emod_eq_of_lt h1.1 (by omega)]
  rw [u32_or _ _ h1.1 (by omega) h2.1 (by omega)]
  obtain ⟨a, rfl⟩ := Int.eq_ofNat_of_zero_le ha.1
  obtain ⟨y, rfl⟩ := Int.eq_ofNat_of_zero_le hx.1
  have e1 : ((y : Int) * 2 ^ (32 - (k + n))).toNat = y * 2 ^ (32 - (k + n)) := by
    rw [← pow_nat, ← Int.natCast_mul]; rfl
  have e2 : ((a : Int) * 2 ^ (32 - n)).toNat = a <<< (32 - n) := by
    rw [← pow_nat, ← Int.natCast_mul, Nat.shiftLeft_eq]; rfl
  have hlt : y * 2 ^ (32 - (k + n)) < 2 ^ (32 - n) := by
    have := h1.2
    rw [← pow_nat, ← pow_nat, ← Int.natCast_mul] at this
    exact_mod_cast this
  rw [e1, e2, Nat.or_comm, ← Nat.shiftLeft_add_eq_or_of_lt hlt, Nat.shiftLeft_eq]
  have e3 : 2 ^ (32 - n) = 2 ^ k * 2 ^ (32 - (k + n)) := by rw [← Nat.pow_add]; congr 1; omega
  rw [e3, ← Nat.mul_assoc, ← Nat.add_mul]
  norm_cast

theorem top_byte (val : Int) (N : Nat) (hv : 0 ≤ val ∧ val < 2 ^ N) (h8 : 8 ≤ N) (hN : N ≤ 32) : val * 2 ^ (32 - N) / 16777216 = val / 2 ^ (N - 8) ∧ 0 ≤ val / 2 ^ (N - 8) ∧ val / 2 ^ (N - 8) < 256 := by
  have e : (16777216 : Int) = 2 ^ (N - 8) * 2 ^ (32 - N) := by rw [← pow_split, show N - 8 + (32 - N) = 24 by omega]; decide
  have hp := pow_pos2 (N - 8)
  refine ⟨?_, Int.ediv_nonneg hv.1 (by omega), ?_⟩
  · rw [e, Int.mul_ediv_mul_of_pos_left _ _ (pow_pos2 _)]
  · refine Int.ediv_lt_of_lt_mul hp ?_
    have e2 : (256 : Int) * 2 ^ (N - 8) = 2 ^ N := by rw [show (256 : Int) = 2 ^ 8 by decide, ← pow_split]; congr 1; omega
    omega
theorem low_bits (val : Int) (N : Nat) (h8 : 8 ≤ N) (hN : N ≤ 32) : val * 2 ^ (32 - N) * 256 % 4294967296 = val % 2 ^ (N - 8) * 2 ^ (32 - (N - 8)) := by
  have e : (4294967296 : Int) = 2 ^ (32 - (N - 8)) * 2 ^ (N - 8) := by rw [← pow_split, show 32 - (N - 8) + (N - 8) = 32 by omega]; decide
  have e2 : val * 2 ^ (32 - N) * 256 = 2 ^ (32 - (N - 8)) * val := by
    rw [show (256 : Int) = 2 ^ 8 by decide, Int.mul_assoc, ← pow_split, show 32 - N + 8 = 32 - (N - 8) by omega, Int.mul_comm]
  rw [e, e2, Int.mul_emod_mul_of_pos _ _ (pow_pos2 _), Int.mul_comm]
end Go.Proofs.YtlibflbpajeeeaaDoor
