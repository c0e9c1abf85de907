/- The plain law of scale: what each place of the small block is. No program in sight. -/
import Derived.Test.YtlibflbpajeeeaaScale
namespace Go.Proofs.Ytlibflbpajeeeaa
open Go.RowKit Go.Sort

theorem scaleAt_all : ∀ t, t < 64 → ∀ u, u < 64 → scaleAt t = scaleAt u → t = u := by decide +kernel
theorem scaleAt_inj (t u : Nat) (ht : t < 64) (hu : u < 64) (h : scaleAt t = scaleAt u) : t = u := scaleAt_all t ht u hu h
theorem scaleAt_lt (t : Nat) (ht : t < 64) : scaleAt t < 64 := by unfold scaleAt; omega

theorem scaleN_get (S d : Array Int) (hd : d.size = 64) : ∀ T, T ≤ 64 → ∀ t, t < T → (scaleN S T d)[scaleAt t]! = scaleVal S t := by
  intro T
  induction T with
  | zero => intro _ t h; omega
  | succ T ih =>
    intro hT t ht
    rw [scaleN]
    by_cases e : t = T
    · subst e
      exact getElem!_set_same _ _ _ (by rw [size_scaleN, hd]; exact scaleAt_lt t (by omega))
    · rw [getElem!_set_other _ _ _ _ (fun x => e (scaleAt_inj _ _ (by omega) (by omega) x))]
      exact ih (by omega) t (by omega)

/-- The block of four, and the place in it, from which place k of the small block comes. -/
def fromBlock (k : Nat) : Nat := k / 32 * 2 + k % 8 / 4
def fromPlace (k : Nat) : Nat := k / 8 % 4 * 16 + k % 4 * 2

theorem place_all : ∀ k, k < 64 → 16 * fromBlock k + 4 * (k / 8 % 4) + k % 4 < 64 ∧ scaleAt (16 * fromBlock k + 4 * (k / 8 % 4) + k % 4) = k ∧ scaleFrom (16 * fromBlock k + 4 * (k / 8 % 4) + k % 4) = fromBlock k * 64 + fromPlace k := by decide +kernel

theorem quarter_law (S d : Array Int) (hd : d.size = 64) (k : Nat) (hk : k < 64) :
    (scaleN S 64 d)[k]! = (S[fromBlock k * 64 + fromPlace k]! + S[fromBlock k * 64 + fromPlace k + 1]! + S[fromBlock k * 64 + fromPlace k + 8]! + S[fromBlock k * 64 + fromPlace k + 9]! + 2) / 4 := by
  obtain ⟨e0, e1, e2⟩ := place_all k hk
  have h := scaleN_get S d hd 64 (Nat.le_refl _) _ e0
  rw [e1] at h
  rw [h, scaleVal, e2]

end Go.Proofs.Ytlibflbpajeeeaa
