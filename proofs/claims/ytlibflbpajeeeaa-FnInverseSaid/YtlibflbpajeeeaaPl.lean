/- Plain definitions: the four one-dimensional transforms as lists of instructions over wrapped 32-bit integers, and how they are laid over a block of 64 numbers. No program in sight. -/
import Derived.WalkKit
import Derived.Sort.Row
namespace Go.Proofs.Ytlibflbpajeeeaa
open Go.RowKit Go.Sort

inductive Ins where
  | add (i j : Nat)
  | sub (i j : Nat)
  | mulL (c : Int) (i : Nat)
  | mulR (i : Nat) (c : Int)
  | addc (i : Nat) (c : Int)
  | subc (i : Nat) (c : Int)
  | shr (i : Nat) (d : Int)

/-- One instruction over the registers, each result wrapped to 32 bits (a shift to the right needs no wrap). -/
def Ins.val (wr : Int → Int) (r : List Int) : Ins → Int
  | .add i j => wr (r.getD i 0 + r.getD j 0)
  | .sub i j => wr (r.getD i 0 - r.getD j 0)
  | .mulL c i => wr (c * r.getD i 0)
  | .mulR i c => wr (r.getD i 0 * c)
  | .addc i c => wr (r.getD i 0 + c)
  | .subc i c => wr (r.getD i 0 - c)
  | .shr i d => r.getD i 0 / d

def evalIns (wr : Int → Int) : List Ins → List Int → List Int
  | [], r => r
  | i :: p, r => evalIns wr p (r ++ [i.val wr r])

def outsOf (wr : Int → Int) (p : List Ins) (outs : List Nat) (x : List Int) : List Int := outs.map fun j => (evalIns wr p x).getD j 0

def fcolIns : List Ins := [.add 0 7, .sub 0 7, .add 1 6, .sub 1 6, .add 2 5, .sub 2 5, .add 3 4, .sub 3 4, .add 15 9, .mulL (217965) 16, .mulL (-72326) 9, .add 17 18, .mulL (363604) 15, .sub 17 20, .add 13 11, .mulL (257107) 22, .mulL (-205965) 11, .add 23 24, .mulL (308249) 13, .sub 23 26, .add 8 14, .sub 8 14, .add 10 12, .sub 10 12, .add 31 29, .mulL (141871) 32, .mulL (200637) 29, .add 33 34, .mulL (484379) 31, .sub 33 36, .add 28 30, .sub 28 30, .subc 38 (1024), .mulR 40 (262144), .mulR 39 (262144), .add 19 27, .sub 19 27, .add 21 25, .sub 21 25, .shr 46 4096, .mulR 47 (5793), .shr 44 4096, .mulR 49 (5793), .add 45 43, .sub 45 43]
def fcolOuts : List Nat := [41, 51, 35, 48, 42, 50, 37, 52]
def fcol (x : List Int) : List Int := outsOf wrap32 fcolIns fcolOuts x
def frowIns : List Ins := [.add 0 7, .sub 0 7, .add 1 6, .sub 1 6, .add 2 5, .sub 2 5, .add 3 4, .sub 3 4, .shr 15 16384, .shr 9 16384, .add 16 17, .mulL (13623) 18, .mulL (-4521) 17, .add 19 20, .mulL (22725) 16, .sub 19 22, .shr 13 16384, .shr 11 16384, .add 24 25, .mulL (16069) 26, .mulL (-12873) 25, .add 27 28, .mulL (19265) 24, .sub 27 30, .add 8 14, .sub 8 14, .add 10 12, .sub 10 12, .shr 35 16384, .shr 33 16384, .add 36 37, .mulL (8867) 38, .mulL (12540) 37, .add 39 40, .mulL (30274) 36, .sub 39 42, .add 32 34, .sub 32 34, .add 21 31, .sub 21 31, .add 23 29, .sub 23 29, .shr 49 16384, .mulR 50 (23170), .shr 47 16384, .mulR 52 (23170), .add 48 46, .sub 48 46, .addc 44 (131072), .shr 56 262144, .addc 54 (131072), .shr 58 262144, .addc 41 (131072), .shr 60 262144, .addc 51 (131072), .shr 62 262144, .addc 45 (131072), .shr 64 262144, .addc 53 (131072), .shr 66 262144, .addc 43 (131072), .shr 68 262144, .addc 55 (131072), .shr 70 262144]
def frowOuts : List Nat := [57, 59, 61, 63, 65, 67, 69, 71]
def frow (x : List Int) : List Int := outsOf wrap32 frowIns frowOuts x
def irowIns : List Ins := [.mulR 0 (131072), .mulR 4 (131072), .add 8 9, .sub 8 9, .add 2 6, .mulL (70936) 12, .mulL (-242190) 6, .add 13 14, .mulL (-100318) 2, .sub 13 16, .add 11 15, .sub 11 15, .add 10 17, .sub 10 17, .mulR 7 (128), .mulR 1 (128), .add 23 22, .sub 23 22, .mulR 5 (181), .mulR 3 (181), .add 24 27, .sub 24 27, .add 25 26, .sub 25 26, .shr 30 4, .shr 28 4, .add 32 33, .mulL (3406) 34, .mulL (-5682) 33, .add 35 36, .mulL (1130) 32, .sub 35 38, .shr 29 4, .shr 31 4, .add 40 41, .mulL (4017) 42, .mulL (-4816) 41, .add 43 44, .mulL (3218) 40, .sub 43 46, .add 20 39, .sub 20 39, .add 18 47, .sub 18 47, .add 19 45, .sub 19 45, .add 21 37, .sub 21 37]
def irowOuts : List Nat := [48, 50, 52, 54, 55, 53, 51, 49]
def irow (x : List Int) : List Int := outsOf wrap32 irowIns irowOuts x
def icolIns : List Ins := [.addc 0 (524288), .add 8 4, .sub 8 4, .shr 9 4, .shr 10 4, .shr 2 8192, .shr 6 8192, .add 13 14, .mulL (1108) 15, .mulL (-3784) 14, .add 16 17, .mulL (-1568) 13, .sub 16 19, .add 12 18, .sub 12 18, .add 11 20, .sub 11 20, .add 1 7, .sub 1 7, .shr 3 8192, .mulR 27 (11585), .shr 5 8192, .mulR 29 (11585), .add 25 28, .sub 25 28, .add 26 30, .sub 26 30, .shr 33 16384, .shr 31 16384, .add 35 36, .mulL (3406) 37, .mulL (-5682) 36, .add 38 39, .mulL (1130) 35, .sub 38 41, .shr 32 16384, .shr 34 16384, .add 43 44, .mulL (4017) 45, .mulL (-4816) 44, .add 46 47, .mulL (3218) 43, .sub 46 49, .add 23 42, .sub 23 42, .add 21 50, .sub 21 50, .add 22 48, .sub 22 48, .add 24 40, .sub 24 40, .shr 51 262144, .shr 53 262144, .shr 55 262144, .shr 57 262144, .shr 58 262144, .shr 56 262144, .shr 54 262144, .shr 52 262144]
def icolOuts : List Nat := [59, 60, 61, 62, 63, 64, 65, 66]
def icol (x : List Int) : List Int := outsOf wrap32 icolIns icolOuts x

/-- The numbers of y laid at the places p j, in the order of the list. -/
def putAll (p : Nat → Nat) (y : List Int) : List Nat → Array Int → Array Int
  | [], d => d
  | j :: r, d => putAll p y r (d.setIfInBounds (p j) (y.getD j 0))

def rowAt (k : Nat) : Nat → Nat := fun j => 8 * k + j
def colAt (k : Nat) : Nat → Nat := fun j => 8 * j + k
def line (p : Nat → Nat) (d : Array Int) : List Int := [d[p 0]!, d[p 1]!, d[p 2]!, d[p 3]!, d[p 4]!, d[p 5]!, d[p 6]!, d[p 7]!]
def stepAt (at_ : Nat → Nat → Nat) (ord : List Nat) (f : List Int → List Int) (k : Nat) (d : Array Int) : Array Int := putAll (at_ k) (f (line (at_ k) d)) ord d
def steps (at_ : Nat → Nat → Nat) (ord : List Nat) (f : List Int → List Int) : Nat → Array Int → Array Int
  | 0, d => d
  | k + 1, d => stepAt at_ ord f k (steps at_ ord f k d)

def ordAll : List Nat := [0, 1, 2, 3, 4, 5, 6, 7]
def ordF : List Nat := [0, 4, 2, 6, 1, 3, 5, 7]
def irowsA (d : Array Int) : Array Int := steps rowAt ordAll irow 8 d
def icolsA (d : Array Int) : Array Int := steps colAt ordAll icol 8 d
def fcolsA (d : Array Int) : Array Int := steps colAt ordF fcol 8 d
def frowsA (d : Array Int) : Array Int := steps rowAt ordAll frow 8 d

theorem size_putAll (p : Nat → Nat) (y : List Int) (l : List Nat) : ∀ d : Array Int, (putAll p y l d).size = d.size := by
  induction l with
  | nil => intro d; rfl
  | cons j r ih => intro d; simp [putAll, ih]
theorem size_stepAt (at_ : Nat → Nat → Nat) (ord : List Nat) (f : List Int → List Int) (k : Nat) (d : Array Int) : (stepAt at_ ord f k d).size = d.size := size_putAll _ _ _ _
theorem size_steps (at_ : Nat → Nat → Nat) (ord : List Nat) (f : List Int → List Int) (k : Nat) (d : Array Int) : (steps at_ ord f k d).size = d.size := by
  induction k with
  | zero => rfl
  | succ k ih => simp [steps, size_stepAt, ih]

def i32v (n : Int) : Value := .int .i32 n

/-- One store of an int32 into a row that is laid. -/
theorem put_one (w : World) (b : Nat) (d : Array Int) (i : Nat) (x : Int) (hi : i < d.size) :
    (putRow i32v w b 0 d).setCell { block := b, off := i } (.int .i32 x) = putRow i32v w b 0 (d.setIfInBounds i x) := by
  have h := putRow_set i32v w b 0 d i x hi
  rw [Nat.zero_add] at h
  exact h

theorem cell_of (w : World) (b : Nat) (d0 d : Array Int) (h0 : Holds i32v w b 0 d0) (hs : d.size = d0.size) (j : Nat) (hj : j < d.size) :
    (putRow i32v w b 0 d).cell? { block := b, off := j } = some (.int .i32 d[j]!) := by
  have h := cell?_putRow i32v w b 0 d0 d h0 hs j hj
  rw [Nat.zero_add] at h
  exact h

theorem free_of (w : World) (b : Nat) (d0 d : Array Int) (h0 : Holds i32v w b 0 d0) (hs : d.size = d0.size) (j : Nat) (hj : j < d.size) :
    (putRow i32v w b 0 d).frozen? { block := b, off := j } = false := by
  have h := (holds_putRow i32v w b 0 d0 d h0 hs j hj).2
  rw [Nat.zero_add] at h
  exact h

/-- Eight stores are one step of the block. -/
theorem put_eight (w W : World) (b : Nat) (d : Array Int) (p : Nat → Nat) (y : List Int) (j0 j1 j2 j3 j4 j5 j6 j7 : Nat) (q0 q1 q2 q3 q4 q5 q6 q7 : Nat) (v0 v1 v2 v3 v4 v5 v6 v7 : Int)
    (hW : W = putRow i32v w b 0 d) (hd : d.size = 64)
    (e0 : q0 = p j0) (e1 : q1 = p j1) (e2 : q2 = p j2) (e3 : q3 = p j3) (e4 : q4 = p j4) (e5 : q5 = p j5) (e6 : q6 = p j6) (e7 : q7 = p j7)
    (b0 : q0 < 64) (b1 : q1 < 64) (b2 : q2 < 64) (b3 : q3 < 64) (b4 : q4 < 64) (b5 : q5 < 64) (b6 : q6 < 64) (b7 : q7 < 64)
    (h0 : v0 = y.getD j0 0) (h1 : v1 = y.getD j1 0) (h2 : v2 = y.getD j2 0) (h3 : v3 = y.getD j3 0) (h4 : v4 = y.getD j4 0) (h5 : v5 = y.getD j5 0) (h6 : v6 = y.getD j6 0) (h7 : v7 = y.getD j7 0) :
    (((((((W.setCell { block := b, off := q0 } (.int .i32 v0)).setCell { block := b, off := q1 } (.int .i32 v1)).setCell { block := b, off := q2 } (.int .i32 v2)).setCell { block := b, off := q3 } (.int .i32 v3)).setCell { block := b, off := q4 } (.int .i32 v4)).setCell { block := b, off := q5 } (.int .i32 v5)).setCell { block := b, off := q6 } (.int .i32 v6)).setCell { block := b, off := q7 } (.int .i32 v7) =
      putRow i32v w b 0 (putAll p y [j0, j1, j2, j3, j4, j5, j6, j7] d) := by
  subst hW h0 h1 h2 h3 h4 h5 h6 h7
  rw [put_one _ _ _ _ _ (by omega), put_one _ _ _ _ _ (by simp; omega), put_one _ _ _ _ _ (by simp; omega), put_one _ _ _ _ _ (by simp; omega), put_one _ _ _ _ _ (by simp; omega), put_one _ _ _ _ _ (by simp; omega), put_one _ _ _ _ _ (by simp; omega), put_one _ _ _ _ _ (by simp; omega)]
  subst e0 e1 e2 e3 e4 e5 e6 e7
  rfl

end Go.Proofs.Ytlibflbpajeeeaa
