/- The contracts of the two roundings, jpeg.div and spec.Rounded: the nearest whole number, halves away from nought. Conditions: the divisor from 1 on, both far from the kind's ends. Plain: the bits of one block of 64 numbers: tables of codes, how many bits a number has, runs of noughts. Tables printed by program (wip/gen/blockpl.py). No program in sight. Plain: the standard's codes: how many of each length, the signs in their order; each sign's code and width come out as the encoder's tables have them. Printed by wip/gen/hufpl.py. No program in sight. (Joined by wip/gen/merge.py.) -/
import Derived.Test.YtlibflbpajeeeaaDoorRows
import Derived.WalkKit
import Derived.Lib.Hide
import Derived.Test.YtlibflbpajeeeaaDoorBits
namespace Go.Proofs.YtlibflbpajeeeaaDoor
open Go.RowKit

def rnd (a b : Int) : Int := if a < 0 then -((-a + b / 2) / b) else (a + b / 2) / b

theorem quot_bounds (x b : Int) (hx : 0 ≤ x) (hb : 1 ≤ b) : 0 ≤ x / b ∧ x / b ≤ x := by
  refine ⟨Int.ediv_nonneg hx (by omega), ?_⟩
  have h := Int.ediv_le_self b hx
  exact h

theorem rounded_any (a b : Int) (w : World) (ha0 : -1000000000000 ≤ a) (ha1 : a ≤ 1000000000000) (hb0 : 1 ≤ b) (hb1 : b ≤ 1000000000000) :
    Calls Tryd.prog 26 #[.int .i64 a, .int .i64 b] w fun e w' => e = .returned (.int .i64 (rnd a b)) ∧ w = w' := by
  have hbz : (b == 0) = false := by simp; omega
  by_cases h : a < 0
  · have hq := quot_bounds (-a + b / 2) b (by omega) hb0
    obtain ⟨hq0, hq1⟩ := hq
    have hr : rnd a b = -((-a + b / 2) / b) := by unfold rnd; rw [if_pos h]
    have HR := Lib.hid hr
    clear hr
    go_enter Tryd.func26, Tryd.ntmps26
    go_wp2
    go_ret
    exact ⟨by rw [HR.out]; rfl, rfl⟩
  · have hq := quot_bounds (a + b / 2) b (by omega) hb0
    obtain ⟨hq0, hq1⟩ := hq
    have hr : rnd a b = (a + b / 2) / b := by unfold rnd; rw [if_neg h]
    have HR := Lib.hid hr
    clear hr
    go_enter Tryd.func26, Tryd.ntmps26
    go_wp2
    go_ret
    exact ⟨by rw [HR.out]; rfl, rfl⟩

theorem div_any (a b : Int) (w : World) (ha0 : -1000000000 ≤ a) (ha1 : a ≤ 1000000000) (hb0 : 1 ≤ b) (hb1 : b ≤ 1000000000) :
    Calls Tryd.prog 68 #[.int .i32 a, .int .i32 b] w fun e w' => e = .returned (.int .i32 (rnd a b)) ∧ w = w' := by
  have hbz : (b == 0) = false := by simp; omega
  by_cases h : a < 0
  · have hq := quot_bounds (-a + b / 2) b (by omega) hb0
    obtain ⟨hq0, hq1⟩ := hq
    have hr : rnd a b = -((-a + b / 2) / b) := by unfold rnd; rw [if_pos h]
    have HR := Lib.hid hr
    clear hr
    go_enter Tryd.func68, Tryd.ntmps68
    go_wp2
    go_ret
    exact ⟨by rw [HR.out]; rfl, rfl⟩
  · have hq := quot_bounds (a + b / 2) b (by omega) hb0
    obtain ⟨hq0, hq1⟩ := hq
    have hr : rnd a b = (a + b / 2) / b := by unfold rnd; rw [if_neg h]
    have HR := Lib.hid hr
    clear hr
    go_enter Tryd.func68, Tryd.ntmps68
    go_wp2
    go_ret
    exact ⟨by rw [HR.out]; rfl, rfl⟩

end Go.Proofs.YtlibflbpajeeeaaDoor

namespace Go.Proofs.YtlibflbpajeeeaaDoor

/-- The four tables as the encoder keeps them: a sign's width in the top eight bits, its code below. -/
def lut0 : List Int := [33554432, 50331650, 50331651, 50331652, 50331653, 50331654, 67108878, 83886110, 100663358, 117440638, 134217982, 150995454]
def lut1 : List Int := [67108874, 33554432, 33554433, 50331652, 67108875, 83886106, 117440632, 134217976, 167773174, 268500866, 268500867, 0, 0, 0, 0, 0, 0, 67108876, 83886107, 117440633, 150995446, 184551414, 268500868, 268500869, 268500870, 268500871, 268500872, 0, 0, 0, 0, 0, 0, 83886108, 134217977, 167773175, 201330676, 268500873, 268500874, 268500875, 268500876, 268500877, 268500878, 0, 0, 0, 0, 0, 0, 100663354, 150995447, 201330677, 268500879, 268500880, 268500881, 268500882, 268500883, 268500884, 268500885, 0, 0, 0, 0, 0, 0, 100663355, 167773176, 268500886, 268500887, 268500888, 268500889, 268500890, 268500891, 268500892, 268500893, 0, 0, 0, 0, 0, 0, 117440634, 184551415, 268500894, 268500895, 268500896, 268500897, 268500898, 268500899, 268500900, 268500901, 0, 0, 0, 0, 0, 0, 117440635, 201330678, 268500902, 268500903, 268500904, 268500905, 268500906, 268500907, 268500908, 268500909, 0, 0, 0, 0, 0, 0, 134217978, 201330679, 268500910, 268500911, 268500912, 268500913, 268500914, 268500915, 268500916, 268500917, 0, 0, 0, 0, 0, 0, 150995448, 251690944, 268500918, 268500919, 268500920, 268500921, 268500922, 268500923, 268500924, 268500925, 0, 0, 0, 0, 0, 0, 150995449, 268500926, 268500927, 268500928, 268500929, 268500930, 268500931, 268500932, 268500933, 268500934, 0, 0, 0, 0, 0, 0, 150995450, 268500935, 268500936, 268500937, 268500938, 268500939, 268500940, 268500941, 268500942, 268500943, 0, 0, 0, 0, 0, 0, 167773177, 268500944, 268500945, 268500946, 268500947, 268500948, 268500949, 268500950, 268500951, 268500952, 0, 0, 0, 0, 0, 0, 167773178, 268500953, 268500954, 268500955, 268500956, 268500957, 268500958, 268500959, 268500960, 268500961, 0, 0, 0, 0, 0, 0, 184551416, 268500962, 268500963, 268500964, 268500965, 268500966, 268500967, 268500968, 268500969, 268500970, 0, 0, 0, 0, 0, 0, 268500971, 268500972, 268500973, 268500974, 268500975, 268500976, 268500977, 268500978, 268500979, 268500980, 0, 0, 0, 0, 0, 184551417, 268500981, 268500982, 268500983, 268500984, 268500985, 268500986, 268500987, 268500988, 268500989, 268500990]
def lut2 : List Int := [33554432, 33554433, 33554434, 50331654, 67108878, 83886110, 100663358, 117440638, 134217982, 150995454, 167773182, 184551422]
def lut3 : List Int := [33554432, 33554433, 50331652, 67108874, 83886104, 83886105, 100663352, 117440632, 150995444, 167773174, 201330676, 0, 0, 0, 0, 0, 0, 67108875, 100663353, 134217974, 150995445, 184551414, 201330677, 268500872, 268500873, 268500874, 268500875, 0, 0, 0, 0, 0, 0, 83886106, 134217975, 167773175, 201330678, 251690946, 268500876, 268500877, 268500878, 268500879, 268500880, 0, 0, 0, 0, 0, 0, 83886107, 134217976, 167773176, 201330679, 268500881, 268500882, 268500883, 268500884, 268500885, 268500886, 0, 0, 0, 0, 0, 0, 100663354, 150995446, 268500887, 268500888, 268500889, 268500890, 268500891, 268500892, 268500893, 268500894, 0, 0, 0, 0, 0, 0, 100663355, 167773177, 268500895, 268500896, 268500897, 268500898, 268500899, 268500900, 268500901, 268500902, 0, 0, 0, 0, 0, 0, 117440633, 184551415, 268500903, 268500904, 268500905, 268500906, 268500907, 268500908, 268500909, 268500910, 0, 0, 0, 0, 0, 0, 117440634, 184551416, 268500911, 268500912, 268500913, 268500914, 268500915, 268500916, 268500917, 268500918, 0, 0, 0, 0, 0, 0, 134217977, 268500919, 268500920, 268500921, 268500922, 268500923, 268500924, 268500925, 268500926, 268500927, 0, 0, 0, 0, 0, 0, 150995447, 268500928, 268500929, 268500930, 268500931, 268500932, 268500933, 268500934, 268500935, 268500936, 0, 0, 0, 0, 0, 0, 150995448, 268500937, 268500938, 268500939, 268500940, 268500941, 268500942, 268500943, 268500944, 268500945, 0, 0, 0, 0, 0, 0, 150995449, 268500946, 268500947, 268500948, 268500949, 268500950, 268500951, 268500952, 268500953, 268500954, 0, 0, 0, 0, 0, 0, 150995450, 268500955, 268500956, 268500957, 268500958, 268500959, 268500960, 268500961, 268500962, 268500963, 0, 0, 0, 0, 0, 0, 184551417, 268500964, 268500965, 268500966, 268500967, 268500968, 268500969, 268500970, 268500971, 268500972, 0, 0, 0, 0, 0, 0, 234897376, 268500973, 268500974, 268500975, 268500976, 268500977, 268500978, 268500979, 268500980, 268500981, 0, 0, 0, 0, 0, 167773178, 251690947, 268500982, 268500983, 268500984, 268500985, 268500986, 268500987, 268500988, 268500989, 268500990]
def lutL : Nat → List Int
  | 0 => lut0
  | 1 => lut1
  | 2 => lut2
  | _ => lut3
def lutV (t s : Nat) : Int := (lutL t).getD s 0
def codeOf (t s : Nat) : Int := lutV t s % 16777216
def wideOf (t s : Nat) : Nat := (lutV t s / 16777216).toNat
def zzL : List Nat := [0, 1, 8, 16, 9, 2, 3, 10, 17, 24, 32, 25, 18, 11, 4, 5, 12, 19, 26, 33, 40, 48, 41, 34, 27, 20, 13, 6, 7, 14, 21, 28, 35, 42, 49, 56, 57, 50, 43, 36, 29, 22, 15, 23, 30, 37, 44, 51, 58, 59, 52, 45, 38, 31, 39, 46, 53, 60, 61, 54, 47, 55, 62, 63]
def zzAt (j : Nat) : Nat := zzL.getD j 0

theorem zz_lt : ∀ j, j < 64 → zzAt j < 64 := by decide +kernel
theorem code_fits : ∀ t, t < 4 → ∀ s, s < 256 → 0 ≤ lutV t s ∧ lutV t s < 4294967296 ∧ wideOf t s ≤ 16 ∧ 0 ≤ codeOf t s ∧ codeOf t s < 2 ^ wideOf t s := by decide +kernel
theorem lut_len : (lutL 0).length = 12 ∧ (lutL 1).length = 251 ∧ (lutL 2).length = 12 ∧ (lutL 3).length = 251 := by decide +kernel
theorem lut_len_dc : ∀ q, q < 2 → (lutL (2 * q)).length = 12 := by decide +kernel
theorem lut_len_ac : ∀ q, q < 2 → (lutL (2 * q + 1)).length = 251 := by decide +kernel
theorem lut_len_le : ∀ t, t < 4 → (lutL t).length ≤ 251 := by decide +kernel

/-- How many bits a number has (below 2^12). -/
def szN : Nat → Nat → Nat
  | 0, _ => 0
  | f + 1, n => if n = 0 then 0 else szN f (n / 2) + 1
def size (x : Int) : Nat := szN 12 x.natAbs
/-- A number's bits: of one below nought those of one less. -/
def coded (x : Int) : Int := if x < 0 then x + (2 ^ size x - 1) else x

theorem szN_le : ∀ f n, szN f n ≤ f := by
  intro f
  induction f with
  | zero => intro n; simp [szN]
  | succ f ih => intro n; simp only [szN]; split <;> have := ih (n / 2) <;> omega
theorem szN_lt : ∀ f n, n < 2 ^ f → n < 2 ^ szN f n := by
  intro f
  induction f with
  | zero => intro n h; simpa [szN] using h
  | succ f ih =>
    intro n h
    simp only [szN]
    split
    · omega
    · have := ih (n / 2) (by rw [Nat.pow_succ] at h; omega)
      rw [Nat.pow_succ]
      omega
theorem szN_bound : ∀ k f n, n < 2 ^ k → szN f n ≤ k := by
  intro k
  induction k with
  | zero => intro f n h; have : n = 0 := by simpa using h
            subst this; cases f <;> simp [szN]
  | succ k ih =>
    intro f n h
    cases f with
    | zero => simp [szN]
    | succ f =>
      simp only [szN]
      split
      · omega
      · have := ih f (n / 2) (by rw [Nat.pow_succ] at h; omega)
        omega
theorem szN_fuel : ∀ f g n, n < 2 ^ f → n < 2 ^ g → szN f n = szN g n := by
  intro f
  induction f with
  | zero => intro g n h _; have : n = 0 := by simpa using h
            subst this; cases g <;> simp [szN]
  | succ f ih =>
    intro g n h hg
    cases g with
    | zero => have : n = 0 := by simpa using hg
              subst this; simp [szN]
    | succ g =>
      simp only [szN]
      split
      · rfl
      · rw [ih g (n / 2) (by rw [Nat.pow_succ] at h; omega) (by rw [Nat.pow_succ] at hg; omega)]

theorem size_le (x : Int) (k : Nat) (h : x.natAbs < 2 ^ k) : size x ≤ k := szN_bound k 12 _ h
theorem size_lt (x : Int) (h : x.natAbs < 4096) : x.natAbs < 2 ^ size x := szN_lt 12 _ h
theorem pow_ge_one (k : Nat) : (1 : Int) ≤ 2 ^ k := pow_pos2 k
theorem natAbs_lt_pow (x : Int) (k : Nat) (h : x.natAbs < 2 ^ k) : -(2 ^ k) < x ∧ x < 2 ^ k := by
  have h2 : ((x.natAbs : Nat) : Int) < ((2 ^ k : Nat) : Int) := by exact_mod_cast h
  have e : ((2 ^ k : Nat) : Int) = (2 : Int) ^ k := by norm_cast
  rw [e] at h2
  omega
theorem coded_fits (x : Int) (h : x.natAbs < 4096) : 0 ≤ coded x ∧ coded x < 2 ^ size x := by
  have h1 := natAbs_lt_pow x _ (size_lt x h)
  unfold coded
  split <;> omega
/-- The encoder's way to a number's bits. -/
theorem coded_mask (x : Int) (h : x.natAbs < 4096) : (if x < 0 then x - 1 else x) % 2 ^ size x = coded x := by
  have hf := coded_fits x h
  have hp := pow_ge_one (size x)
  unfold coded at hf ⊢
  split
  · rename_i hx
    rw [if_pos hx] at hf
    have e : x - 1 = (x + (2 ^ size x - 1)) + (-1) * 2 ^ size x := by omega
    rw [e, Int.add_mul_emod_self_right]
    exact Int.emod_eq_of_lt hf.1 hf.2
  · rename_i hx
    rw [if_neg hx] at hf
    exact Int.emod_eq_of_lt hf.1 hf.2
theorem size_zero (x : Int) : size x = 0 ↔ x = 0 := by
  unfold size szN
  constructor
  · intro h
    split at h
    · omega
    · omega
  · intro h; subst h; rfl

/-- A code, and a sign with its number's bits behind it. -/
def huff (s : St) (t c : Nat) : St := pushBits s (codeOf t c) (wideOf t c)
def sym (s : St) (t c : Nat) (x : Int) (k : Nat) : St := pushBits (huff s t c) x k
def zrl (t : Nat) (s : St) : Nat → St
  | 0 => s
  | j + 1 => huff (zrl t s j) t 240
def acStep (t : Nat) (a : St × Nat) (x : Int) : St × Nat :=
  if x = 0 then (a.1, a.2 + 1) else (sym (zrl t a.1 (a.2 / 16)) t (a.2 % 16 * 16 + size x) (coded x) (size x), 0)
def acs (t : Nat) (f : Nat → Int) (s : St) : Nat → St × Nat
  | 0 => (s, 0)
  | k + 1 => acStep t (acs t f s k) (f (k + 1))
/-- One block: its quantized numbers f, in zigzag order; the last first number. -/
def blockOut (s : St) (q : Nat) (last : Int) (f : Nat → Int) : St :=
  let s1 := sym s (2 * q) (size (f 0 - last)) (coded (f 0 - last)) (size (f 0 - last))
  let a := acs (2 * q + 1) f s1 63
  if 0 < a.2 then huff a.1 (2 * q + 1) 0 else a.1

theorem huff_ok {s : St} (h : s.Ok) (t c : Nat) : (huff s t c).Ok := pushBits_ok _ h _
theorem huff_len (s : St) (t c : Nat) (ht : t < 4) (hc : c < 256) : s.out.length ≤ (huff s t c).out.length ∧ (huff s t c).out.length ≤ s.out.length + 32 := by
  have h1 := pushBits_len (wideOf t c) s (codeOf t c)
  have h2 := (code_fits t ht c hc).2.2.1
  unfold huff
  omega
theorem sym_len (s : St) (t c : Nat) (x : Int) (k : Nat) (ht : t < 4) (hc : c < 256) (hk : k ≤ 12) : (sym s t c x k).out.length ≤ s.out.length + 56 := by
  have h1 := huff_len s t c ht hc
  have h2 := pushBits_len k (huff s t c) x
  unfold sym
  omega
theorem zrl_len (t : Nat) (ht : t < 4) (s : St) : ∀ j, (zrl t s j).out.length ≤ s.out.length + 32 * j := by
  intro j
  induction j with
  | zero => simp [zrl]
  | succ j ih =>
    have := huff_len (zrl t s j) t 240 ht (by decide)
    simp only [zrl]
    omega
theorem acs_run (t : Nat) (f : Nat → Int) (s : St) : ∀ k, (acs t f s k).2 ≤ k := by
  intro k
  induction k with
  | zero => simp [acs]
  | succ k ih => simp only [acs, acStep]; split <;> simp; omega
theorem acs_len (t : Nat) (ht : t < 4) (f : Nat → Int) (hf : ∀ j, 1 ≤ j → j < 64 → (f j).natAbs < 1024) (s : St) : ∀ k, k ≤ 63 → (acs t f s k).1.out.length ≤ s.out.length + 200 * k := by
  intro k
  induction k with
  | zero => intro _; simp [acs]
  | succ k ih =>
    intro hk
    have h1 := ih (by omega)
    have h2 := acs_run t f s k
    have h3 := size_le (f (k + 1)) 10 (hf _ (by omega) (by omega))
    simp only [acs, acStep]
    split
    · simp only; omega
    · have h4 := zrl_len t ht (acs t f s k).1 ((acs t f s k).2 / 16)
      have h5 := sym_len (zrl t (acs t f s k).1 ((acs t f s k).2 / 16)) t ((acs t f s k).2 % 16 * 16 + size (f (k + 1))) (coded (f (k + 1))) (size (f (k + 1))) ht (by omega) (by omega)
      simp only
      omega
theorem blockOut_len (s : St) (q : Nat) (hq : q < 2) (last : Int) (f : Nat → Int) (h0 : (f 0 - last).natAbs < 2048) (hf : ∀ j, 1 ≤ j → j < 64 → (f j).natAbs < 1024) : (blockOut s q last f).out.length ≤ s.out.length + 13000 := by
  have h1 := size_le (f 0 - last) 11 h0
  have h2 := sym_len s (2 * q) (size (f 0 - last)) (coded (f 0 - last)) (size (f 0 - last)) (by omega) (by omega) (by omega)
  have h3 := acs_len (2 * q + 1) (by omega) f hf (sym s (2 * q) (size (f 0 - last)) (coded (f 0 - last)) (size (f 0 - last))) 63 (by omega)
  unfold blockOut
  simp only
  split
  · have h4 := huff_len (acs (2 * q + 1) f (sym s (2 * q) (size (f 0 - last)) (coded (f 0 - last)) (size (f 0 - last))) 63).1 (2 * q + 1) 0 (by omega) (by omega)
    omega
  · omega

end Go.Proofs.YtlibflbpajeeeaaDoor

namespace Go.Proofs.YtlibflbpajeeeaaDoor

def cntL : Nat → List Int
  | 0 => [0, 1, 5, 1, 1, 1, 1, 1, 1, 0, 0, 0, 0, 0, 0, 0]
  | 1 => [0, 2, 1, 3, 3, 2, 4, 3, 5, 5, 4, 4, 0, 0, 1, 125]
  | 2 => [0, 3, 1, 1, 1, 1, 1, 1, 1, 1, 1, 0, 0, 0, 0, 0]
  | _ => [0, 2, 1, 2, 4, 4, 3, 4, 7, 5, 4, 4, 0, 1, 2, 119]
def sgL : Nat → List Int
  | 0 => [0, 1, 2, 3, 4, 5, 6, 7, 8, 9, 10, 11]
  | 1 => [1, 2, 3, 0, 4, 17, 5, 18, 33, 49, 65, 6, 19, 81, 97, 7, 34, 113, 20, 50, 129, 145, 161, 8, 35, 66, 177, 193, 21, 82, 209, 240, 36, 51, 98, 114, 130, 9, 10, 22, 23, 24, 25, 26, 37, 38, 39, 40, 41, 42, 52, 53, 54, 55, 56, 57, 58, 67, 68, 69, 70, 71, 72, 73, 74, 83, 84, 85, 86, 87, 88, 89, 90, 99, 100, 101, 102, 103, 104, 105, 106, 115, 116, 117, 118, 119, 120, 121, 122, 131, 132, 133, 134, 135, 136, 137, 138, 146, 147, 148, 149, 150, 151, 152, 153, 154, 162, 163, 164, 165, 166, 167, 168, 169, 170, 178, 179, 180, 181, 182, 183, 184, 185, 186, 194, 195, 196, 197, 198, 199, 200, 201, 202, 210, 211, 212, 213, 214, 215, 216, 217, 218, 225, 226, 227, 228, 229, 230, 231, 232, 233, 234, 241, 242, 243, 244, 245, 246, 247, 248, 249, 250]
  | 2 => [0, 1, 2, 3, 4, 5, 6, 7, 8, 9, 10, 11]
  | _ => [0, 1, 2, 3, 17, 4, 5, 33, 49, 6, 18, 65, 81, 7, 97, 113, 19, 34, 50, 129, 8, 20, 66, 145, 161, 177, 193, 9, 35, 51, 82, 240, 21, 98, 114, 209, 10, 22, 36, 52, 225, 37, 241, 23, 24, 25, 26, 38, 39, 40, 41, 42, 53, 54, 55, 56, 57, 58, 67, 68, 69, 70, 71, 72, 73, 74, 83, 84, 85, 86, 87, 88, 89, 90, 99, 100, 101, 102, 103, 104, 105, 106, 115, 116, 117, 118, 119, 120, 121, 122, 130, 131, 132, 133, 134, 135, 136, 137, 138, 146, 147, 148, 149, 150, 151, 152, 153, 154, 162, 163, 164, 165, 166, 167, 168, 169, 170, 178, 179, 180, 181, 182, 183, 184, 185, 186, 194, 195, 196, 197, 198, 199, 200, 201, 202, 210, 211, 212, 213, 214, 215, 216, 217, 218, 226, 227, 228, 229, 230, 231, 232, 233, 234, 242, 243, 244, 245, 246, 247, 248, 249, 250]
/-- How many codes of a length (from 0), the length of a code, the sign at a place. -/
def cntN (t l : Nat) : Nat := ((cntL t).getD l 0).toNat
def sgN (t k : Nat) : Nat := ((sgL t).getD k 0).toNat
/-- Behind l lengths: how many signs, the next code. -/
def stdRun (t : Nat) : Nat → Nat × Int
  | 0 => (0, 0)
  | l + 1 => ((stdRun t l).1 + cntN t l, ((stdRun t l).2 + cntN t l) * 2)
theorem cnt_bd : ∀ t, t < 4 → ∀ l, l < 16 → cntN t l < 256 ∧ (cntL t).getD l 0 = (cntN t l : Int) ∧ (stdRun t l).1 + cntN t l ≤ (sgL t).length ∧ 0 ≤ (stdRun t l).2 ∧ (stdRun t l).2 + cntN t l < 65536 := by decide +kernel
theorem std_total : ∀ t, t < 4 → (stdRun t 16).1 = (sgL t).length ∧ (sgL t).length ≤ 162 ∧ 0 < (sgL t).length ∧ (cntL t).length = 16 := by decide +kernel
theorem sg_bd : ∀ t, t < 4 → ∀ k, k < (sgL t).length → sgN t k < (lutL t).length ∧ (sgL t).getD k 0 = (sgN t k : Int) ∧ sgN t k < 256 := by decide +kernel
theorem std_code : ∀ t, t < 4 → ∀ l, l < 16 → ∀ i, i < cntN t l → codeOf t (sgN t ((stdRun t l).1 + i)) = (stdRun t l).2 + i ∧ wideOf t (sgN t ((stdRun t l).1 + i)) = l + 1 ∧ lutV t (sgN t ((stdRun t l).1 + i)) = 16777216 * ((l : Int) + 1) + ((stdRun t l).2 + i) := by decide +kernel
/-- Signs among the first k. -/
def inSg (t k s : Nat) : Bool := ((sgL t).take k).contains (s : Int)
theorem sg_all : ∀ t, t < 4 → ∀ s, s < 256 → inSg t (sgL t).length s = false → codeOf t s = 0 ∧ wideOf t s = 0 ∧ lutV t s = 0 := by decide +kernel
theorem sg_max : ∀ t, t < 4 → (sgL t).foldl max 0 + 1 = ((lutL t).length : Int) := by decide +kernel
theorem inSg_zero (t s : Nat) : inSg t 0 s = false := rfl
theorem inSg_succ (t k s : Nat) (ht : t < 4) (hk : k < (sgL t).length) : inSg t (k + 1) s = (inSg t k s || s == sgN t k) := by
  have hb := (sg_bd t ht k hk).2.1
  rw [List.getD_eq_getElem?_getD, List.getElem?_eq_getElem hk, Option.getD_some] at hb
  unfold inSg
  rw [List.take_succ_eq_append_getElem hk, hb, Bool.eq_iff_iff]
  simp only [List.contains_iff_mem, List.mem_append, List.mem_singleton, Bool.or_eq_true, beq_iff_eq]
  constructor
  · rintro (h | h)
    · exact .inl h
    · exact .inr (by omega)
  · rintro (h | h)
    · exact .inl h
    · exact .inr (by omega)

end Go.Proofs.YtlibflbpajeeeaaDoor
