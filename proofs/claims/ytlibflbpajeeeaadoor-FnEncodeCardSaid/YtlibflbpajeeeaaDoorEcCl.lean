/- Plain, for the reference's Encoded over colored pictures: the small block while it is filled; the two parts of chroma, one behind the other. -/
import Derived.Test.YtlibflbpajeeeaaDoorEcPl
namespace Go.Proofs.YtlibflbpajeeeaaDoor
open Go.RowKit Go.Sort

def chromaF (f1 f2 : Nat → Nat → Int) (j : Nat) : Nat → Nat → Int := if j = 0 then f1 else f2
def chromaS (Q : Nat → Nat → Int) (f1 f2 : Nat → Nat → Int) (wd ht x y : Nat) (a : Sc) : Nat → Sc
  | 0 => a
  | j + 1 => putBlk Q (j + 1) 1 (smallB (chromaF f1 f2 j) wd ht x y) (chromaS Q f1 f2 wd ht x y a j)
theorem chroma_two (Q : Nat → Nat → Int) (f0 f1 f2 : Nat → Nat → Int) (wd ht x y : Nat) (a : Sc) : chromaS Q f1 f2 wd ht x y (iter (mcuLuma Q f0 wd ht x y) 4 a) 2 = mcuColor Q f0 f1 f2 wd ht x y a := by
  unfold mcuColor chromaS chromaS chromaS chromaF
  rw [if_neg (by omega), if_pos rfl]
theorem chromaS_ok (Q : Nat → Nat → Int) (hQ : ∀ q, q < 2 → ∀ j, j < 64 → 1 ≤ Q q j ∧ Q q j ≤ 255) (f1 f2 : Nat → Nat → Int) (h1 : ∀ x y, 0 ≤ f1 x y ∧ f1 x y ≤ 255) (h2 : ∀ x y, 0 ≤ f2 x y ∧ f2 x y ≤ 255) (wd ht x y : Nat) (a : Sc) (n : Nat) (h : a.Ok n) : ∀ j, (chromaS Q f1 f2 wd ht x y a j).Ok (n + 13000 * j) := by
  intro j
  induction j with
  | zero => exact h
  | succ j ih => exact (putBlk_ok ih (by omega) hQ (smallB_size _ _ _ _ _) (smallB_fits _ (fun x y => by unfold chromaF; split; exact h1 x y; exact h2 x y) _ _ _ _)).mono (by omega)

theorem chroma_pick (f0 f1 f2 : Nat → Nat → Int) (j : Nat) (hj : j < 2) : chromaF f1 f2 j = fun x y => pick (j + 1) (f0 x y) (f1 x y) (f2 x y) := by
  unfold chromaF
  match j, hj with
  | 0, _ => rfl
  | 1, _ => rfl
theorem chroma_fits (f1 f2 : Nat → Nat → Int) (h1 : ∀ x y, 0 ≤ f1 x y ∧ f1 x y ≤ 255) (h2 : ∀ x y, 0 ≤ f2 x y ∧ f2 x y ≤ 255) (j : Nat) : ∀ x y, 0 ≤ chromaF f1 f2 j x y ∧ chromaF f1 f2 j x y ≤ 255 := by
  intro x y
  unfold chromaF
  split
  · exact h1 x y
  · exact h2 x y

/-- The small block behind t numbers. -/
def smF (f : Nat → Nat → Int) (wd ht x y t : Nat) : Nat → Int := fun u => (scaleN (fourA f wd ht x y) t (Array.replicate 64 0))[u]!
theorem smF_zero (f : Nat → Nat → Int) (wd ht x y u : Nat) (hu : u < 64) : smF f wd ht x y 0 u = 0 := by
  show (Array.replicate 64 (0 : Int))[u]! = 0
  rw [getElem!_pos _ u (by simpa using hu)]
  simp
theorem smF_succ (f : Nat → Nat → Int) (wd ht x y t : Nat) (ht' : t < 64) (u : Nat) : upd (smF f wd ht x y t) (scaleAt t) (scaleVal (fourA f wd ht x y) t) u = smF f wd ht x y (t + 1) u := by
  unfold smF upd
  show _ = ((scaleN (fourA f wd ht x y) t (Array.replicate 64 0)).setIfInBounds (scaleAt t) (scaleVal (fourA f wd ht x y) t))[u]!
  have hz : scaleAt t < (scaleN (fourA f wd ht x y) t (Array.replicate 64 0)).size := by rw [size_scaleN]; simpa using scaleAt_lt t ht'
  generalize scaleN (fourA f wd ht x y) t (Array.replicate 64 0) = D at hz ⊢
  split
  · rename_i h
    subst h
    exact (getElem!_set_same D _ _ hz).symm
  · rename_i h
    first | exact (getElem!_set_other D (scaleAt t) u _ (fun e => h e.symm)).symm | exact (getElem!_set_other D u (scaleAt t) _ (fun e => h e)).symm | exact (getElem!_set_other D (scaleAt t) u _ (fun e => h e)).symm
theorem smF_all (f : Nat → Nat → Int) (wd ht x y : Nat) : (smallB f wd ht x y).map i32v = arr32 64 (smF f wd ht x y 64) := arr32_arr _ 64 (smallB_size f wd ht x y)
/-- One number of the small block. -/
theorem smF_val (f : Nat → Nat → Int) (wd ht x y k i a : Nat) (hk : k < 4) (hi : i < 16) (ha : a = i / 4 * 16 + i % 4 * 2) :
    scaleVal (fourA f wd ht x y) (16 * k + i) = (blkG f wd ht (x + k % 2 * 8) (y + k / 2 * 8) a + blkG f wd ht (x + k % 2 * 8) (y + k / 2 * 8) (a + 1) + blkG f wd ht (x + k % 2 * 8) (y + k / 2 * 8) (a + 8) + blkG f wd ht (x + k % 2 * 8) (y + k / 2 * 8) (a + 9) + 2) / 4 := by
  have hf : scaleFrom (16 * k + i) = 64 * k + a := by unfold scaleFrom; omega
  have g : ∀ b, b < 64 → (fourA f wd ht x y)[64 * k + b]! = blkG f wd ht (x + k % 2 * 8) (y + k / 2 * 8) b := fun b hb => by
    rw [fourA_get f wd ht x y _ (by omega)]
    unfold four
    rw [show (64 * k + b) / 64 = k by omega, show (64 * k + b) % 64 = b by omega]
  unfold scaleVal
  rw [hf, g a (by omega), show 64 * k + a + 1 = 64 * k + (a + 1) by omega, g (a + 1) (by omega), show 64 * k + a + 8 = 64 * k + (a + 8) by omega, g (a + 8) (by omega), show 64 * k + a + 9 = 64 * k + (a + 9) by omega, g (a + 9) (by omega)]
theorem scaleAt_of (k i : Nat) (hi : i < 16) : scaleAt (16 * k + i) = k / 2 * 32 + k % 2 * 4 + i / 4 * 8 + i % 4 := by unfold scaleAt; omega
theorem built79 : Tryd.prog.built 79 [] = some (arr32 64 fun _ => 0) := by kernel_rfl
end Go.Proofs.YtlibflbpajeeeaaDoor
