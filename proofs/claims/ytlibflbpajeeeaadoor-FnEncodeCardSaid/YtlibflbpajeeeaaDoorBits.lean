/- Plain: bits that are pushed one behind the other into bytes, a nought behind each byte of 255: as the reference does it (bit by bit) and as the encoder does it (a number at once). No program in sight. -/
import Derived.WalkKit
namespace Go.Proofs.YtlibflbpajeeeaaDoor

structure St where
  out : List Int
  acc : Int
  n : Nat

def stuffed (b : Int) : List Int := if b = 255 then [255, 0] else [b]
def pushBit (s : St) (b : Int) : St := if s.n + 1 = 8 then ⟨s.out ++ stuffed (2 * s.acc + b), 0, 0⟩ else ⟨s.out, 2 * s.acc + b, s.n + 1⟩
def pushBits (s : St) (v : Int) : Nat → St
  | 0 => s
  | k + 1 => pushBits (pushBit s (v / 2 ^ k % 2)) v k

structure St.Ok (s : St) : Prop where
  n : s.n < 8
  lo : 0 ≤ s.acc
  hi : s.acc < 2 ^ s.n

theorem stuffed_len (b : Int) : (stuffed b).length ≤ 2 ∧ 1 ≤ (stuffed b).length := by unfold stuffed; split <;> simp
theorem pushBit_ok {s : St} (h : s.Ok) (b : Int) (hb : b = 0 ∨ b = 1) : (pushBit s b).Ok := by
  have h0 := h.lo
  have h1 := h.hi
  have h2 := h.n
  unfold pushBit
  split
  · exact ⟨Nat.zero_lt_succ 7, Int.le_refl 0, by show (0:Int) < 2 ^ 0; decide⟩
  · refine ⟨by simp; omega, ?_, ?_⟩
    · simp; omega
    · simp only [Int.pow_succ]
      omega
theorem mod2 (x : Int) : x % 2 = 0 ∨ x % 2 = 1 := by omega
theorem pushBits_ok : ∀ (k : Nat) {s : St} (_ : s.Ok) (v : Int), (pushBits s v k).Ok := by
  intro k
  induction k with
  | zero => intro s h v; exact h
  | succ k ih => intro s h v; exact ih (pushBit_ok h _ (mod2 _)) v
theorem pushBit_len (s : St) (b : Int) : s.out.length ≤ (pushBit s b).out.length ∧ (pushBit s b).out.length ≤ s.out.length + 2 := by
  unfold pushBit
  split
  · simp only [List.length_append]
    have := stuffed_len (2 * s.acc + b)
    omega
  · simp
theorem pushBits_len : ∀ (k : Nat) (s : St) (v : Int), s.out.length ≤ (pushBits s v k).out.length ∧ (pushBits s v k).out.length ≤ s.out.length + 2 * k := by
  intro k
  induction k with
  | zero => intro s v; simp [pushBits]
  | succ k ih =>
    intro s v
    have h1 := ih (pushBit s (v / 2 ^ k % 2)) v
    have h2 := pushBit_len s (v / 2 ^ k % 2)
    simp only [pushBits]
    omega

/-- Whole bytes off a number of N bits. -/
def flushB : Nat → List Int → Int → Nat → St
  | 0, out, val, N => ⟨out, val, N⟩
  | f + 1, out, val, N => if 8 ≤ N then flushB f (out ++ stuffed (val / 2 ^ (N - 8))) (val % 2 ^ (N - 8)) (N - 8) else ⟨out, val, N⟩

theorem flushB_small (f : Nat) (out : List Int) (val : Int) (N : Nat) (h : N < 8) : flushB f out val N = ⟨out, val, N⟩ := by
  cases f with
  | zero => rfl
  | succ f => simp only [flushB]; rw [if_neg (by omega)]

theorem pow_pos2 (k : Nat) : (0 : Int) < 2 ^ k := Int.pow_pos (by decide)

theorem mod_succ (v : Int) (k : Nat) : v % 2 ^ (k + 1) = v / 2 ^ k % 2 * 2 ^ k + v % 2 ^ k := by
  have hp := pow_pos2 k
  rw [Int.pow_succ]
  generalize (2 : Int) ^ k = p at hp
  have h1 := Int.emod_add_mul_ediv v p
  have h2 := Int.emod_add_mul_ediv (v / p) 2
  have h3 := Int.emod_nonneg v (show p ≠ 0 by omega)
  have h4 := Int.emod_lt_of_pos v hp
  have h5 : v / p % 2 = 0 ∨ v / p % 2 = 1 := by omega
  have e : v = (v / p % 2 * p + v % p) + (v / p / 2) * (p * 2) := by
    have e1 : p * (v / p) = p * (v / p % 2) + p * (2 * (v / p / 2)) := by rw [← Int.mul_add, h2]
    have e2 : p * (2 * (v / p / 2)) = (v / p / 2) * (p * 2) := by rw [← Int.mul_assoc, Int.mul_comm]
    have e3 := Int.mul_comm p (v / p % 2)
    omega
  have hm : v % (p * 2) = ((v / p % 2 * p + v % p) + (v / p / 2) * (p * 2)) % (p * 2) := congrArg (· % (p * 2)) e
  rw [hm, Int.add_mul_emod_self_right]
  refine Int.emod_eq_of_lt ?_ ?_
  · rcases h5 with h | h <;> rw [h] <;> omega
  · rcases h5 with h | h <;> rw [h] <;> omega

theorem emit_eq (v : Int) : ∀ (k : Nat) (s : St) (f : Nat), s.Ok → k ≤ f → flushB f s.out (s.acc * 2 ^ k + v % 2 ^ k) (s.n + k) = pushBits s v k := by
  intro k
  induction k with
  | zero =>
    intro s f h _
    rw [flushB_small _ _ _ _ (by have := h.n; omega)]
    simp [pushBits]
  | succ k ih =>
    intro s f h hf
    have hp := pow_pos2 k
    have hval : s.acc * 2 ^ (k + 1) + v % 2 ^ (k + 1) = (2 * s.acc + v / 2 ^ k % 2) * 2 ^ k + v % 2 ^ k := by
      rw [mod_succ, Int.pow_succ, Int.add_mul, Int.mul_assoc 2, ← Int.mul_assoc s.acc]
      omega
    have ih' := ih (pushBit s (v / 2 ^ k % 2))
    simp only [pushBits]
    by_cases h8 : s.n + 1 = 8
    · obtain ⟨f', rfl⟩ : ∃ f', f = f' + 1 := ⟨f - 1, by omega⟩
      have e1 : s.n + (k + 1) = 8 + k := by omega
      have hb : pushBit s (v / 2 ^ k % 2) = ⟨s.out ++ stuffed (2 * s.acc + v / 2 ^ k % 2), 0, 0⟩ := by unfold pushBit; rw [if_pos h8]
      have i2 := ih' f' (pushBit_ok h _ (mod2 _)) (by omega)
      rw [hb] at i2
      rw [hb, ← i2, e1, hval]
      simp only [flushB]
      rw [if_pos (by omega)]
      have e2 : 8 + k - 8 = k := by omega
      have d1 : ((2 * s.acc + v / 2 ^ k % 2) * 2 ^ k + v % 2 ^ k) / 2 ^ k = 2 * s.acc + v / 2 ^ k % 2 := by
        rw [Int.add_comm, Int.add_mul_ediv_right _ _ (by omega), Int.ediv_eq_zero_of_lt (Int.emod_nonneg _ (by omega)) (Int.emod_lt_of_pos _ hp)]
        omega
      have d2 : ((2 * s.acc + v / 2 ^ k % 2) * 2 ^ k + v % 2 ^ k) % 2 ^ k = v % 2 ^ k := by
        rw [Int.add_comm, Int.add_mul_emod_self_right, Int.emod_emod_of_dvd _ (Int.dvd_refl _)]
      rw [e2, d1, d2]
      simp
    · have hb : pushBit s (v / 2 ^ k % 2) = ⟨s.out, 2 * s.acc + v / 2 ^ k % 2, s.n + 1⟩ := by unfold pushBit; rw [if_neg h8]
      have i2 := ih' f (pushBit_ok h _ (mod2 _)) (by omega)
      rw [hb] at i2
      rw [hb, ← i2, hval]
      have e1 : s.n + (k + 1) = s.n + 1 + k := by omega
      rw [e1]

theorem flushB_fuel : ∀ (f f' : Nat) (out : List Int) (val : Int) (N : Nat), N < 8 * (f + 1) → N < 8 * (f' + 1) → flushB f out val N = flushB f' out val N := by
  intro f
  induction f with
  | zero =>
    intro f' out val N h _
    rw [flushB_small f' out val N (by omega)]
    rfl
  | succ f ih =>
    intro f' out val N h h'
    by_cases h8 : 8 ≤ N
    · obtain ⟨g, rfl⟩ : ∃ g, f' = g + 1 := ⟨f' - 1, by omega⟩
      simp only [flushB]
      rw [if_pos h8, if_pos h8]
      exact ih g _ _ _ (by omega) (by omega)
    · rw [flushB_small _ _ _ _ (by omega), flushB_small _ _ _ _ (by omega)]

/-- The last byte is filled with ones. -/
def fillSt (s : St) : St := pushBits s (2 ^ (8 - s.n) - 1) (if s.n = 0 then 0 else 8 - s.n)

end Go.Proofs.YtlibflbpajeeeaaDoor
