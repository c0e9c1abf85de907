/- The plain law of FnFlat: a block of the first number alone, from -2000 to 2000, is undone to one number, (n + 4) / 8 rounded down. No program in sight. -/
import Derived.Test.YtlibflbpajeeeaaGet
namespace Go.Proofs.Ytlibflbpajeeeaa
open Go.RowKit Go.Sort

def flatD (n : Int) : Array Int := #[n, 0, 0, 0, 0, 0, 0, 0, 0, 0, 0, 0, 0, 0, 0, 0, 0, 0, 0, 0, 0, 0, 0, 0, 0, 0, 0, 0, 0, 0, 0, 0, 0, 0, 0, 0, 0, 0, 0, 0, 0, 0, 0, 0, 0, 0, 0, 0, 0, 0, 0, 0, 0, 0, 0, 0, 0, 0, 0, 0, 0, 0, 0, 0]

theorem w32 (n : Int) (h0 : -2147483648 ≤ n) (h1 : n ≤ 2147483647) : wrap32 n = n := by unfold wrap32; omega

theorem irow_zero : irow [0, 0, 0, 0, 0, 0, 0, 0] = [0, 0, 0, 0, 0, 0, 0, 0] := by decide +kernel

set_option maxRecDepth 10000 in
theorem irow_flat (n : Int) (h0 : -2000 ≤ n) (h1 : n ≤ 2000) : irow [n, 0, 0, 0, 0, 0, 0, 0] = [n * 131072, n * 131072, n * 131072, n * 131072, n * 131072, n * 131072, n * 131072, n * 131072] := by
  have a : wrap32 (n * 131072) = n * 131072 := w32 _ (by omega) (by omega)
  have z : wrap32 0 = 0 := w32 _ (by omega) (by omega)
  simp [irow, outsOf, irowOuts, irowIns, evalIns, Ins.val, a, z]

set_option maxRecDepth 10000 in
theorem icol_flat (n : Int) (h0 : -2000 ≤ n) (h1 : n ≤ 2000) : icol [n * 131072, 0, 0, 0, 0, 0, 0, 0] = [(n + 4) / 8, (n + 4) / 8, (n + 4) / 8, (n + 4) / 8, (n + 4) / 8, (n + 4) / 8, (n + 4) / 8, (n + 4) / 8] := by
  have a : wrap32 (n * 131072 + 524288) = n * 131072 + 524288 := w32 _ (by omega) (by omega)
  have b : wrap32 ((n * 131072 + 524288) / 4) = (n * 131072 + 524288) / 4 := w32 _ (by omega) (by omega)
  have z : wrap32 0 = 0 := w32 _ (by omega) (by omega)
  have c : (n * 131072 + 524288) / 4 / 262144 = (n + 4) / 8 := by omega
  simp [icol, outsOf, icolOuts, icolIns, evalIns, Ins.val, a, b, z, c]

theorem flat_line (n : Int) (r : Nat) (hr : r < 8) : line (rowAt r) (flatD n) = [if r = 0 then n else 0, 0, 0, 0, 0, 0, 0, 0] := by
  match r, hr with
  | 0, _ => rfl
  | 1, _ => rfl
  | 2, _ => rfl
  | 3, _ => rfl
  | 4, _ => rfl
  | 5, _ => rfl
  | 6, _ => rfl
  | 7, _ => rfl

theorem flat_law (n : Int) (h0 : -2000 ≤ n) (h1 : n ≤ 2000) (k : Nat) (hk : k < 64) : (icolsA (irowsA (flatD n)))[k]! = (n + 4) / 8 := by
  have hsz : (flatD n).size = 64 := rfl
  have hsz2 : (irowsA (flatD n)).size = 64 := by unfold irowsA; rw [size_steps]; rfl
  have hrow : ∀ r c, r < 8 → c < 8 → (irowsA (flatD n))[8 * r + c]! = if r = 0 then n * 131072 else 0 := by
    intro r c hr hc
    rw [irows_get _ hsz r c hr hc, flat_line n r hr]
    by_cases e : r = 0
    · rw [if_pos e, if_pos e, irow_flat n h0 h1]
      match c, hc with
      | 0, _ => rfl
      | 1, _ => rfl
      | 2, _ => rfl
      | 3, _ => rfl
      | 4, _ => rfl
      | 5, _ => rfl
      | 6, _ => rfl
      | 7, _ => rfl
    · rw [if_neg e, if_neg e, irow_zero]
      match c, hc with
      | 0, _ => rfl
      | 1, _ => rfl
      | 2, _ => rfl
      | 3, _ => rfl
      | 4, _ => rfl
      | 5, _ => rfl
      | 6, _ => rfl
      | 7, _ => rfl
  have hcol : ∀ c, c < 8 → line (colAt c) (irowsA (flatD n)) = [n * 131072, 0, 0, 0, 0, 0, 0, 0] := by
    intro c hc
    unfold line colAt
    rw [hrow 0 c (by omega) hc, hrow 1 c (by omega) hc, hrow 2 c (by omega) hc, hrow 3 c (by omega) hc, hrow 4 c (by omega) hc, hrow 5 c (by omega) hc, hrow 6 c (by omega) hc, hrow 7 c (by omega) hc]
    simp
  have e : k = 8 * (k / 8) + k % 8 := by omega
  rw [e, icols_get _ hsz2 (k / 8) (k % 8) (by omega) (by omega), hcol _ (by omega), icol_flat n h0 h1]
  match k / 8, (show k / 8 < 8 by omega) with
  | 0, _ => rfl
  | 1, _ => rfl
  | 2, _ => rfl
  | 3, _ => rfl
  | 4, _ => rfl
  | 5, _ => rfl
  | 6, _ => rfl
  | 7, _ => rfl

end Go.Proofs.Ytlibflbpajeeeaa
