/- Plain definitions: the four one-dimensional transforms as lists of instructions over wrapped 32-bit integers, and how they are laid over a block of 64 numbers. No program in sight. Plain: linear forms with intervals over the instruction lists of Pl: a checker, and that it is sound: no wrap, and each output is its linear form but for an error within stated bounds. No program in sight. Plain: the four one-dimensional transforms as linear forms with errors, over the boxes that their callers hand on: by the checker of Aff. No program in sight. Plain laws on the steps of Pl: what a number of the block is behind all eight steps, by its row or column alone. No program in sight. Plain: the transform forward, its numbers by eight to the nearest whole ones, and back: each number of the block again, off by five at the most. By the linear forms of Tabs, laid one into the other. No program in sight. (Joined by wip/gen/merge.py.) -/
import Derived.WalkKit
import Derived.Sort.Row
namespace Go.Proofs.YtlibflbpajeeeaaDoor
open Go.RowKit Go.Sort

inductive Ins where
  | add (i j : Nat)
  | sub (i j : Nat)
  | mulL (c : Int) (i : Nat)
  | mulR (i : Nat) (c : Int)
  | addc (i : Nat) (c : Int)
  | subc (i : Nat) (c : Int)
  | shr (i : Nat) (d : Int)

/-- One instruction over the registers, each result wrapped to 32 bits (a shift to the right needs no wrap). -/
def Ins.val (wr : Int → Int) (r : List Int) : Ins → Int
  | .add i j => wr (r.getD i 0 + r.getD j 0)
  | .sub i j => wr (r.getD i 0 - r.getD j 0)
  | .mulL c i => wr (c * r.getD i 0)
  | .mulR i c => wr (r.getD i 0 * c)
  | .addc i c => wr (r.getD i 0 + c)
  | .subc i c => wr (r.getD i 0 - c)
  | .shr i d => r.getD i 0 / d

def evalIns (wr : Int → Int) : List Ins → List Int → List Int
  | [], r => r
  | i :: p, r => evalIns wr p (r ++ [i.val wr r])

def outsOf (wr : Int → Int) (p : List Ins) (outs : List Nat) (x : List Int) : List Int := outs.map fun j => (evalIns wr p x).getD j 0

def fcolIns : List Ins := [.add 0 7, .sub 0 7, .add 1 6, .sub 1 6, .add 2 5, .sub 2 5, .add 3 4, .sub 3 4, .add 15 9, .mulL (217965) 16, .mulL (-72326) 9, .add 17 18, .mulL (363604) 15, .sub 17 20, .add 13 11, .mulL (257107) 22, .mulL (-205965) 11, .add 23 24, .mulL (308249) 13, .sub 23 26, .add 8 14, .sub 8 14, .add 10 12, .sub 10 12, .add 31 29, .mulL (141871) 32, .mulL (200637) 29, .add 33 34, .mulL (484379) 31, .sub 33 36, .add 28 30, .sub 28 30, .subc 38 (1024), .mulR 40 (262144), .mulR 39 (262144), .add 19 27, .sub 19 27, .add 21 25, .sub 21 25, .shr 46 4096, .mulR 47 (5793), .shr 44 4096, .mulR 49 (5793), .add 45 43, .sub 45 43]
def fcolOuts : List Nat := [41, 51, 35, 48, 42, 50, 37, 52]
def fcol (x : List Int) : List Int := outsOf wrap32 fcolIns fcolOuts x
def frowIns : List Ins := [.add 0 7, .sub 0 7, .add 1 6, .sub 1 6, .add 2 5, .sub 2 5, .add 3 4, .sub 3 4, .shr 15 16384, .shr 9 16384, .add 16 17, .mulL (13623) 18, .mulL (-4521) 17, .add 19 20, .mulL (22725) 16, .sub 19 22, .shr 13 16384, .shr 11 16384, .add 24 25, .mulL (16069) 26, .mulL (-12873) 25, .add 27 28, .mulL (19265) 24, .sub 27 30, .add 8 14, .sub 8 14, .add 10 12, .sub 10 12, .shr 35 16384, .shr 33 16384, .add 36 37, .mulL (8867) 38, .mulL (12540) 37, .add 39 40, .mulL (30274) 36, .sub 39 42, .add 32 34, .sub 32 34, .add 21 31, .sub 21 31, .add 23 29, .sub 23 29, .shr 49 16384, .mulR 50 (23170), .shr 47 16384, .mulR 52 (23170), .add 48 46, .sub 48 46, .addc 44 (131072), .shr 56 262144, .addc 54 (131072), .shr 58 262144, .addc 41 (131072), .shr 60 262144, .addc 51 (131072), .shr 62 262144, .addc 45 (131072), .shr 64 262144, .addc 53 (131072), .shr 66 262144, .addc 43 (131072), .shr 68 262144, .addc 55 (131072), .shr 70 262144]
def frowOuts : List Nat := [57, 59, 61, 63, 65, 67, 69, 71]
def frow (x : List Int) : List Int := outsOf wrap32 frowIns frowOuts x
def irowIns : List Ins := [.mulR 0 (131072), .mulR 4 (131072), .add 8 9, .sub 8 9, .add 2 6, .mulL (70936) 12, .mulL (-242190) 6, .add 13 14, .mulL (-100318) 2, .sub 13 16, .add 11 15, .sub 11 15, .add 10 17, .sub 10 17, .mulR 7 (128), .mulR 1 (128), .add 23 22, .sub 23 22, .mulR 5 (181), .mulR 3 (181), .add 24 27, .sub 24 27, .add 25 26, .sub 25 26, .shr 30 4, .shr 28 4, .add 32 33, .mulL (3406) 34, .mulL (-5682) 33, .add 35 36, .mulL (1130) 32, .sub 35 38, .shr 29 4, .shr 31 4, .add 40 41, .mulL (4017) 42, .mulL (-4816) 41, .add 43 44, .mulL (3218) 40, .sub 43 46, .add 20 39, .sub 20 39, .add 18 47, .sub 18 47, .add 19 45, .sub 19 45, .add 21 37, .sub 21 37]
def irowOuts : List Nat := [48, 50, 52, 54, 55, 53, 51, 49]
def irow (x : List Int) : List Int := outsOf wrap32 irowIns irowOuts x
def icolIns : List Ins := [.addc 0 (524288), .add 8 4, .sub 8 4, .shr 9 4, .shr 10 4, .shr 2 8192, .shr 6 8192, .add 13 14, .mulL (1108) 15, .mulL (-3784) 14, .add 16 17, .mulL (-1568) 13, .sub 16 19, .add 12 18, .sub 12 18, .add 11 20, .sub 11 20, .add 1 7, .sub 1 7, .shr 3 8192, .mulR 27 (11585), .shr 5 8192, .mulR 29 (11585), .add 25 28, .sub 25 28, .add 26 30, .sub 26 30, .shr 33 16384, .shr 31 16384, .add 35 36, .mulL (3406) 37, .mulL (-5682) 36, .add 38 39, .mulL (1130) 35, .sub 38 41, .shr 32 16384, .shr 34 16384, .add 43 44, .mulL (4017) 45, .mulL (-4816) 44, .add 46 47, .mulL (3218) 43, .sub 46 49, .add 23 42, .sub 23 42, .add 21 50, .sub 21 50, .add 22 48, .sub 22 48, .add 24 40, .sub 24 40, .shr 51 262144, .shr 53 262144, .shr 55 262144, .shr 57 262144, .shr 58 262144, .shr 56 262144, .shr 54 262144, .shr 52 262144]
def icolOuts : List Nat := [59, 60, 61, 62, 63, 64, 65, 66]
def icol (x : List Int) : List Int := outsOf wrap32 icolIns icolOuts x

/-- The numbers of y laid at the places p j, in the order of the list. -/
def putAll (p : Nat → Nat) (y : List Int) : List Nat → Array Int → Array Int
  | [], d => d
  | j :: r, d => putAll p y r (d.setIfInBounds (p j) (y.getD j 0))

def rowAt (k : Nat) : Nat → Nat := fun j => 8 * k + j
def colAt (k : Nat) : Nat → Nat := fun j => 8 * j + k
def line (p : Nat → Nat) (d : Array Int) : List Int := [d[p 0]!, d[p 1]!, d[p 2]!, d[p 3]!, d[p 4]!, d[p 5]!, d[p 6]!, d[p 7]!]
def stepAt (at_ : Nat → Nat → Nat) (ord : List Nat) (f : List Int → List Int) (k : Nat) (d : Array Int) : Array Int := putAll (at_ k) (f (line (at_ k) d)) ord d
def steps (at_ : Nat → Nat → Nat) (ord : List Nat) (f : List Int → List Int) : Nat → Array Int → Array Int
  | 0, d => d
  | k + 1, d => stepAt at_ ord f k (steps at_ ord f k d)

def ordAll : List Nat := [0, 1, 2, 3, 4, 5, 6, 7]
def ordF : List Nat := [0, 4, 2, 6, 1, 3, 5, 7]
def irowsA (d : Array Int) : Array Int := steps rowAt ordAll irow 8 d
def icolsA (d : Array Int) : Array Int := steps colAt ordAll icol 8 d
def fcolsA (d : Array Int) : Array Int := steps colAt ordF fcol 8 d
def frowsA (d : Array Int) : Array Int := steps rowAt ordAll frow 8 d

theorem size_putAll (p : Nat → Nat) (y : List Int) (l : List Nat) : ∀ d : Array Int, (putAll p y l d).size = d.size := by
  induction l with
  | nil => intro d; rfl
  | cons j r ih => intro d; simp [putAll, ih]
theorem size_stepAt (at_ : Nat → Nat → Nat) (ord : List Nat) (f : List Int → List Int) (k : Nat) (d : Array Int) : (stepAt at_ ord f k d).size = d.size := size_putAll _ _ _ _
theorem size_steps (at_ : Nat → Nat → Nat) (ord : List Nat) (f : List Int → List Int) (k : Nat) (d : Array Int) : (steps at_ ord f k d).size = d.size := by
  induction k with
  | zero => rfl
  | succ k ih => simp [steps, size_stepAt, ih]

def i32v (n : Int) : Value := .int .i32 n

/-- One store of an int32 into a row that is laid. -/
theorem put_one (w : World) (b : Nat) (d : Array Int) (i : Nat) (x : Int) (hi : i < d.size) :
    (putRow i32v w b 0 d).setCell { block := b, off := i } (.int .i32 x) = putRow i32v w b 0 (d.setIfInBounds i x) := by
  have h := putRow_set i32v w b 0 d i x hi
  rw [Nat.zero_add] at h
  exact h

theorem cell_of (w : World) (b : Nat) (d0 d : Array Int) (h0 : Holds i32v w b 0 d0) (hs : d.size = d0.size) (j : Nat) (hj : j < d.size) :
    (putRow i32v w b 0 d).cell? { block := b, off := j } = some (.int .i32 d[j]!) := by
  have h := cell?_putRow i32v w b 0 d0 d h0 hs j hj
  rw [Nat.zero_add] at h
  exact h

theorem free_of (w : World) (b : Nat) (d0 d : Array Int) (h0 : Holds i32v w b 0 d0) (hs : d.size = d0.size) (j : Nat) (hj : j < d.size) :
    (putRow i32v w b 0 d).frozen? { block := b, off := j } = false := by
  have h := (holds_putRow i32v w b 0 d0 d h0 hs j hj).2
  rw [Nat.zero_add] at h
  exact h

/-- Eight stores are one step of the block. -/
theorem put_eight (w W : World) (b : Nat) (d : Array Int) (p : Nat → Nat) (y : List Int) (j0 j1 j2 j3 j4 j5 j6 j7 : Nat) (q0 q1 q2 q3 q4 q5 q6 q7 : Nat) (v0 v1 v2 v3 v4 v5 v6 v7 : Int)
    (hW : W = putRow i32v w b 0 d) (hd : d.size = 64)
    (e0 : q0 = p j0) (e1 : q1 = p j1) (e2 : q2 = p j2) (e3 : q3 = p j3) (e4 : q4 = p j4) (e5 : q5 = p j5) (e6 : q6 = p j6) (e7 : q7 = p j7)
    (b0 : q0 < 64) (b1 : q1 < 64) (b2 : q2 < 64) (b3 : q3 < 64) (b4 : q4 < 64) (b5 : q5 < 64) (b6 : q6 < 64) (b7 : q7 < 64)
    (h0 : v0 = y.getD j0 0) (h1 : v1 = y.getD j1 0) (h2 : v2 = y.getD j2 0) (h3 : v3 = y.getD j3 0) (h4 : v4 = y.getD j4 0) (h5 : v5 = y.getD j5 0) (h6 : v6 = y.getD j6 0) (h7 : v7 = y.getD j7 0) :
    (((((((W.setCell { block := b, off := q0 } (.int .i32 v0)).setCell { block := b, off := q1 } (.int .i32 v1)).setCell { block := b, off := q2 } (.int .i32 v2)).setCell { block := b, off := q3 } (.int .i32 v3)).setCell { block := b, off := q4 } (.int .i32 v4)).setCell { block := b, off := q5 } (.int .i32 v5)).setCell { block := b, off := q6 } (.int .i32 v6)).setCell { block := b, off := q7 } (.int .i32 v7) =
      putRow i32v w b 0 (putAll p y [j0, j1, j2, j3, j4, j5, j6, j7] d) := by
  subst hW h0 h1 h2 h3 h4 h5 h6 h7
  rw [put_one _ _ _ _ _ (by omega), put_one _ _ _ _ _ (by simp; omega), put_one _ _ _ _ _ (by simp; omega), put_one _ _ _ _ _ (by simp; omega), put_one _ _ _ _ _ (by simp; omega), put_one _ _ _ _ _ (by simp; omega), put_one _ _ _ _ _ (by simp; omega), put_one _ _ _ _ _ (by simp; omega)]
  subst e0 e1 e2 e3 e4 e5 e6 e7
  rfl

end Go.Proofs.YtlibflbpajeeeaaDoor

namespace Go.Proofs.YtlibflbpajeeeaaDoor
open Go.RowKit

def dot : List Int → List Int → Int
  | a :: as, b :: bs => a * b + dot as bs
  | _, _ => 0
def addL : List Int → List Int → List Int
  | [], bs => bs
  | as, [] => as
  | a :: as, b :: bs => (a + b) :: addL as bs
def smulL (c : Int) (a : List Int) : List Int := a.map (c * ·)
def unitL (n : Nat) (c : Int) : List Int := List.replicate n 0 ++ [c]

theorem dot_nil_right (a : List Int) : dot a [] = 0 := by cases a <;> rfl
theorem dot_nil_left (v : List Int) : dot [] v = 0 := rfl
theorem dot_addL : ∀ (v a b : List Int), dot (addL a b) v = dot a v + dot b v := by
  intro v
  induction v with
  | nil => intro a b; simp [dot_nil_right]
  | cons x xs ih =>
    intro a b
    cases a with
    | nil => simp [addL, dot]
    | cons p ps =>
      cases b with
      | nil => simp [addL, dot]
      | cons r rs => simp only [addL, dot, ih]; rw [Int.add_mul]; omega
theorem dot_smulL (c : Int) : ∀ (v a : List Int), dot (smulL c a) v = c * dot a v := by
  intro v
  induction v with
  | nil => intro a; simp [dot_nil_right]
  | cons x xs ih =>
    intro a
    cases a with
    | nil => simp [smulL, dot]
    | cons p ps =>
      have h := ih ps
      simp only [smulL, List.map_cons, dot] at h ⊢
      rw [h, Int.mul_add, Int.mul_assoc]
theorem dot_append : ∀ (a v r : List Int), a.length ≤ v.length → dot a (v ++ r) = dot a v := by
  intro a
  induction a with
  | nil => intro v r _; rfl
  | cons p ps ih =>
    intro v r h
    cases v with
    | nil => simp at h
    | cons x xs => simp only [List.cons_append, dot]; rw [ih xs r (by simpa using h)]
theorem dot_unitL (c : Int) : ∀ (n : Nat) (v : List Int), dot (unitL n c) v = c * v.getD n 0 := by
  intro n
  induction n with
  | zero =>
    intro v
    cases v with
    | nil => simp [unitL, dot]
    | cons x xs => simp [unitL, dot]
  | succ n ih =>
    intro v
    cases v with
    | nil => simp [dot_nil_right]
    | cons x xs =>
      have h := ih xs
      simp only [unitL, List.replicate_succ, List.cons_append, dot] at h ⊢
      rw [h]
      simp
theorem dot_split : ∀ (x a u : List Int), dot a (x ++ u) = dot (a.take x.length) x + dot (a.drop x.length) u := by
  intro x
  induction x with
  | nil => intro a u; simp [dot]
  | cons y ys ih =>
    intro a u
    cases a with
    | nil => simp [dot]
    | cons p ps => simp only [List.cons_append, dot, List.length_cons, List.take_succ_cons, List.drop_succ_cons, ih]; omega
theorem length_addL : ∀ (a b : List Int) (n : Nat), a.length ≤ n → b.length ≤ n → (addL a b).length ≤ n := by
  intro a
  induction a with
  | nil => intro b n _ h; exact h
  | cons p ps ih =>
    intro b n h1 h2
    cases b with
    | nil => exact h1
    | cons r rs =>
      cases n with
      | zero => simp at h1
      | succ n => simp only [addL, List.length_cons] at *; have := ih rs n (by omega) (by omega); omega

def InBox : List Int → List (Int × Int) → Prop
  | x :: xs, (l, h) :: bs => (l ≤ x ∧ x ≤ h) ∧ InBox xs bs
  | [], [] => True
  | _, _ => False
def loD : List Int → List (Int × Int) → Int
  | a :: as, (l, h) :: bs => (if 0 ≤ a then a * l else a * h) + loD as bs
  | _, _ => 0
def hiD : List Int → List (Int × Int) → Int
  | a :: as, (l, h) :: bs => (if 0 ≤ a then a * h else a * l) + hiD as bs
  | _, _ => 0

theorem InBox.length : ∀ {v : List Int} {b : List (Int × Int)}, InBox v b → v.length = b.length := by
  intro v
  induction v with
  | nil => intro b h; cases b with
    | nil => rfl
    | cons p ps => exact h.elim
  | cons x xs ih => intro b h; cases b with
    | nil => exact h.elim
    | cons p ps => simp only [List.length_cons]; rw [ih h.2]
theorem InBox.snoc : ∀ {v : List Int} {b : List (Int × Int)} (r l h : Int), InBox v b → l ≤ r → r ≤ h → InBox (v ++ [r]) (b ++ [(l, h)]) := by
  intro v
  induction v with
  | nil => intro b r l h hb h1 h2; cases b with
    | nil => exact ⟨⟨h1, h2⟩, trivial⟩
    | cons p ps => exact hb.elim
  | cons x xs ih => intro b r l h hb h1 h2; cases b with
    | nil => exact hb.elim
    | cons p ps => exact ⟨hb.1, ih r l h hb.2 h1 h2⟩
theorem InBox.drop : ∀ {x : List Int} {u : List Int} {b : List (Int × Int)}, InBox (x ++ u) b → InBox u (b.drop x.length) := by
  intro x
  induction x with
  | nil => intro u b h; exact h
  | cons y ys ih => intro u b h; cases b with
    | nil => exact h.elim
    | cons p ps => exact ih h.2

theorem mul_lo (a x l h : Int) (h1 : l ≤ x) (h2 : x ≤ h) : (if 0 ≤ a then a * l else a * h) ≤ a * x := by
  by_cases ha : 0 ≤ a
  · rw [if_pos ha]; exact Int.mul_le_mul_of_nonneg_left h1 ha
  · rw [if_neg ha]; exact Int.mul_le_mul_of_nonpos_left (by omega) h2
theorem mul_hi (a x l h : Int) (h1 : l ≤ x) (h2 : x ≤ h) : a * x ≤ (if 0 ≤ a then a * h else a * l) := by
  by_cases ha : 0 ≤ a
  · rw [if_pos ha]; exact Int.mul_le_mul_of_nonneg_left h2 ha
  · rw [if_neg ha]; exact Int.mul_le_mul_of_nonpos_left (by omega) h1

theorem loD_le : ∀ (a v : List Int) (b : List (Int × Int)), InBox v b → loD a b ≤ dot a v := by
  intro a
  induction a with
  | nil => intro v b _; simp [loD, dot]
  | cons p ps ih => intro v b h; cases v with
    | nil => cases b with
      | nil => simp [loD, dot]
      | cons r rs => exact h.elim
    | cons x xs => cases b with
      | nil => exact h.elim
      | cons r rs =>
        have := mul_lo p x r.1 r.2 h.1.1 h.1.2
        have := ih xs rs h.2
        simp only [loD, dot]
        omega
theorem le_hiD : ∀ (a v : List Int) (b : List (Int × Int)), InBox v b → dot a v ≤ hiD a b := by
  intro a
  induction a with
  | nil => intro v b _; simp [hiD, dot]
  | cons p ps ih => intro v b h; cases v with
    | nil => cases b with
      | nil => simp [hiD, dot]
      | cons r rs => exact h.elim
    | cons x xs => cases b with
      | nil => exact h.elim
      | cons r rs =>
        have := mul_hi p x r.1 r.2 h.1.1 h.1.2
        have := ih xs rs h.2
        simp only [hiD, dot]
        omega

/-- q times a number is a linear form of the variables. -/
structure Form where
  q : Int
  co : List Int
  k : Int

structure FormOk (f : Form) (v : List Int) (x : Int) : Prop where
  pos : 0 < f.q
  len : f.co.length ≤ v.length
  eq : f.q * x = dot f.co v + f.k

def addF (s : Int) (f g : Form) : Option Form :=
  let m1 := if f.q < g.q then g.q / f.q else 1
  let m2 := if g.q < f.q then f.q / g.q else 1
  if 0 < m1 ∧ 0 < m2 ∧ m1 * f.q = m2 * g.q then some ⟨m1 * f.q, addL (smulL m1 f.co) (smulL (s * m2) g.co), m1 * f.k + s * m2 * g.k⟩ else none

theorem addF_ok {s : Int} {f g r : Form} {v : List Int} {x y : Int} (h : addF s f g = some r) (hf : FormOk f v x) (hg : FormOk g v y) : FormOk r v (x + s * y) := by
  unfold addF at h
  simp only at h
  generalize (if f.q < g.q then g.q / f.q else 1) = m1 at h
  generalize (if g.q < f.q then f.q / g.q else 1) = m2 at h
  split at h
  · rename_i hc
    obtain ⟨h1, h2, h3⟩ := hc
    injection h with h
    subst h
    refine ⟨Int.mul_pos h1 hf.pos, length_addL _ _ _ (by simpa [smulL] using hf.len) (by simpa [smulL] using hg.len), ?_⟩
    simp only
    rw [dot_addL, dot_smulL, dot_smulL, Int.mul_add, Int.mul_assoc m1 f.q x, hf.eq]
    have e : m1 * f.q * (s * y) = s * m2 * (g.q * y) := by
      rw [h3, Int.mul_comm s m2, Int.mul_assoc m2 g.q (s * y), Int.mul_assoc m2 s (g.q * y), ← Int.mul_assoc g.q s y, Int.mul_comm g.q s, Int.mul_assoc s g.q y]
    rw [e, hg.eq, Int.mul_add, Int.mul_add]
    omega
  · cases h

def mulF (c : Int) (f : Form) : Form := ⟨f.q, smulL c f.co, c * f.k⟩
theorem mulF_ok {c : Int} {f : Form} {v : List Int} {x : Int} (hf : FormOk f v x) : FormOk (mulF c f) v (c * x) := by
  refine ⟨hf.pos, by simpa [mulF, smulL] using hf.len, ?_⟩
  simp only [mulF]
  rw [dot_smulL, ← Int.mul_assoc, Int.mul_comm f.q c, Int.mul_assoc, hf.eq, Int.mul_add]
def shiftF (c : Int) (f : Form) : Form := ⟨f.q, f.co, f.k + c * f.q⟩
theorem shiftF_ok {c : Int} {f : Form} {v : List Int} {x : Int} (hf : FormOk f v x) : FormOk (shiftF c f) v (x + c) := by
  refine ⟨hf.pos, hf.len, ?_⟩
  simp only [shiftF]
  rw [Int.mul_add, hf.eq, Int.mul_comm f.q c]
  omega

def fits32 (f : Form) (b : List (Int × Int)) : Bool := decide (-2147483648 * f.q ≤ loD f.co b + f.k) && decide (hiD f.co b + f.k ≤ 2147483647 * f.q)
theorem fits32_ok {f : Form} {b : List (Int × Int)} {v : List Int} {x : Int} (h : fits32 f b = true) (hb : InBox v b) (hf : FormOk f v x) : wrap32 x = x := by
  unfold fits32 at h
  rw [Bool.and_eq_true, decide_eq_true_eq, decide_eq_true_eq] at h
  have h1 := loD_le f.co v b hb
  have h2 := le_hiD f.co v b hb
  have h3 := hf.eq
  have a1 : f.q * -2147483648 ≤ f.q * x := by rw [Int.mul_comm]; omega
  have a2 : f.q * x ≤ f.q * 2147483647 := by rw [Int.mul_comm f.q 2147483647]; omega
  have b1 := Int.le_of_mul_le_mul_left a1 hf.pos
  have b2 := Int.le_of_mul_le_mul_left a2 hf.pos
  unfold wrap32
  omega

abbrev AffSt := List (Int × Int) × List Form
def getF (l : List Form) (i : Nat) : Form := l.getD i ⟨1, [], 0⟩
def keepF (st : AffSt) (f : Form) : Option AffSt := if fits32 f st.1 then some (st.1, st.2 ++ [f]) else none
def stepF (st : AffSt) : Ins → Option AffSt
  | .add i j => (addF 1 (getF st.2 i) (getF st.2 j)).bind (keepF st)
  | .sub i j => (addF (-1) (getF st.2 i) (getF st.2 j)).bind (keepF st)
  | .mulL c i => keepF st (mulF c (getF st.2 i))
  | .mulR i c => keepF st (mulF c (getF st.2 i))
  | .addc i c => keepF st (shiftF c (getF st.2 i))
  | .subc i c => keepF st (shiftF (-c) (getF st.2 i))
  | .shr i d => if 0 < d then some (st.1 ++ [(0, d - 1)], st.2 ++ [⟨(getF st.2 i).q * d, addL (getF st.2 i).co (unitL st.1.length (-(getF st.2 i).q)), (getF st.2 i).k⟩]) else none
def runF : List Ins → AffSt → Option AffSt
  | [], st => some st
  | i :: p, st => (stepF st i).bind (runF p)

structure AffInv (st : AffSt) (r v : List Int) : Prop where
  box : InBox v st.1
  len : st.2.length = r.length
  ok : ∀ i, FormOk (getF st.2 i) v (r.getD i 0)

theorem getD_snoc {α : Type} (l : List α) (a d : α) (i : Nat) : (l ++ [a]).getD i d = if i < l.length then l.getD i d else if i = l.length then a else d := by
  rw [List.getD_eq_getElem?_getD, List.getD_eq_getElem?_getD]
  by_cases h : i < l.length
  · rw [if_pos h, List.getElem?_append_left h]
  · rw [if_neg h, List.getElem?_append_right (by omega)]
    by_cases e : i = l.length
    · subst e; simp
    · rw [if_neg e, List.getElem?_eq_none (by simp; omega)]; rfl

theorem FormOk.longer {f : Form} {v u : List Int} {x : Int} (h : FormOk f v x) : FormOk f (v ++ u) x :=
  ⟨h.pos, by simp; have := h.len; omega, by rw [dot_append _ _ _ h.len]; exact h.eq⟩

theorem AffInv.push {st : AffSt} {r v : List Int} {u : List Int} {b : List (Int × Int)} {f : Form} {x : Int} (h : AffInv st r v) (hb : InBox (v ++ u) b) (hf : FormOk f (v ++ u) x) : AffInv (b, st.2 ++ [f]) (r ++ [x]) (v ++ u) := by
  refine ⟨hb, by simp [h.len], fun i => ?_⟩
  unfold getF
  rw [getD_snoc, getD_snoc, h.len]
  by_cases h1 : i < r.length
  · rw [if_pos h1, if_pos h1]; exact (h.ok i).longer
  · rw [if_neg h1, if_neg h1]
    by_cases h2 : i = r.length
    · rw [if_pos h2, if_pos h2]; exact hf
    · rw [if_neg h2, if_neg h2]; exact ⟨by decide, by simp, by simp [dot]⟩

theorem keepF_ok {st st' : AffSt} {r v : List Int} {f : Form} {x : Int} (hk : keepF st f = some st') (h : AffInv st r v) (hf : FormOk f v x) : AffInv st' (r ++ [wrap32 x]) (v ++ []) := by
  unfold keepF at hk
  split at hk
  · rename_i hfit
    injection hk with hk
    subst hk
    rw [fits32_ok hfit h.box hf]
    exact h.push (by simpa using h.box) (by simpa using hf)
  · cases hk

theorem stepF_ok {st st' : AffSt} {r v : List Int} (i : Ins) (hs : stepF st i = some st') (h : AffInv st r v) : ∃ u, AffInv st' (r ++ [i.val wrap32 r]) (v ++ u) := by
  cases i with
  | add i j =>
    simp only [stepF, Option.bind_eq_some_iff] at hs
    obtain ⟨f, hf, hk⟩ := hs
    have := addF_ok hf (h.ok i) (h.ok j)
    rw [Int.one_mul] at this
    exact ⟨[], keepF_ok hk h this⟩
  | sub i j =>
    simp only [stepF, Option.bind_eq_some_iff] at hs
    obtain ⟨f, hf, hk⟩ := hs
    have := addF_ok hf (h.ok i) (h.ok j)
    rw [show r.getD i 0 + -1 * r.getD j 0 = r.getD i 0 - r.getD j 0 by omega] at this
    exact ⟨[], keepF_ok hk h this⟩
  | mulL c i => exact ⟨[], keepF_ok hs h (mulF_ok (h.ok i))⟩
  | mulR i c =>
    have := keepF_ok hs h (mulF_ok (h.ok i))
    rw [Int.mul_comm] at this
    exact ⟨[], this⟩
  | addc i c => exact ⟨[], keepF_ok hs h (shiftF_ok (h.ok i))⟩
  | subc i c => exact ⟨[], keepF_ok hs h (shiftF_ok (h.ok i))⟩
  | shr i d =>
    simp only [stepF] at hs
    split at hs
    · rename_i hd
      injection hs with hs
      subst hs
      refine ⟨[r.getD i 0 % d], ?_⟩
      have hr0 := Int.emod_nonneg (r.getD i 0) (show d ≠ 0 by omega)
      have hr1 := Int.emod_lt_of_pos (r.getD i 0) hd
      have hi := h.ok i
      refine h.push (h.box.snoc _ _ _ hr0 (by omega)) ⟨Int.mul_pos hi.pos hd, ?_, ?_⟩
      · refine length_addL _ _ _ (by have := hi.len; simp; omega) ?_
        simp [unitL, ← h.box.length]
      · simp only [Ins.val]
        rw [dot_addL, dot_append _ _ _ hi.len, dot_unitL, ← h.box.length]
        have e1 : (v ++ [r.getD i 0 % d]).getD v.length 0 = r.getD i 0 % d := by rw [getD_snoc]; simp
        rw [e1, Int.mul_assoc, Int.mul_comm d]
        have e2 : r.getD i 0 / d * d = r.getD i 0 - r.getD i 0 % d := by have := Int.emod_add_mul_ediv (r.getD i 0) d; rw [Int.mul_comm d] at this; omega
        rw [e2, Int.mul_sub, hi.eq, Int.neg_mul]
        omega
    · cases hs

theorem runF_ok : ∀ (p : List Ins) (st st' : AffSt) (r v : List Int), runF p st = some st' → AffInv st r v → ∃ u, AffInv st' (evalIns wrap32 p r) (v ++ u) := by
  intro p
  induction p with
  | nil =>
    intro st st' r v hs h
    injection hs with hs
    subst hs
    exact ⟨[], by rw [List.append_nil]; exact h⟩
  | cons i p ih =>
    intro st st' r v hs h
    simp only [runF, Option.bind_eq_some_iff] at hs
    obtain ⟨st1, h1, h2⟩ := hs
    obtain ⟨u1, hu1⟩ := stepF_ok i h1 h
    obtain ⟨u2, hu2⟩ := ih st1 st' _ _ h2 hu1
    exact ⟨u1 ++ u2, by rw [← List.append_assoc]; exact hu2⟩

/-! ### A line of eight -/
def S (f : Nat → Int) : Int := f 0 + f 1 + f 2 + f 3 + f 4 + f 5 + f 6 + f 7
def line8 (x : Nat → Int) : List Int := [x 0, x 1, x 2, x 3, x 4, x 5, x 6, x 7]

theorem dot_head (a : List Int) (x : Int) (xs : List Int) : dot a (x :: xs) = a.headD 0 * x + dot a.tail xs := by
  cases a with
  | nil => simp [dot]
  | cons p ps => rfl
def norm8 (a : List Int) : List Int := [a.headD 0, a.tail.headD 0, a.tail.tail.headD 0, a.tail.tail.tail.headD 0, a.tail.tail.tail.tail.headD 0, a.tail.tail.tail.tail.tail.headD 0, a.tail.tail.tail.tail.tail.tail.headD 0, a.tail.tail.tail.tail.tail.tail.tail.headD 0]
theorem dot_line8 (a : List Int) (x : Nat → Int) : dot a (line8 x) = S (fun j => (norm8 a).getD j 0 * x j) := by
  unfold line8
  rw [dot_head, dot_head, dot_head, dot_head, dot_head, dot_head, dot_head, dot_head, dot_nil_right]
  simp [S, norm8]
  omega

/-- What is told of an output: K times it is the linear form co of the eight inputs, and an error from elo to ehi; it lies from ylo to yhi. -/
structure LinRow where
  co : List Int
  elo : Int
  ehi : Int
  ylo : Int
  yhi : Int

def st0 (l h : Int) : AffSt := (List.replicate 8 (l, h), [⟨1, unitL 0 1, 0⟩, ⟨1, unitL 1 1, 0⟩, ⟨1, unitL 2 1, 0⟩, ⟨1, unitL 3 1, 0⟩, ⟨1, unitL 4 1, 0⟩, ⟨1, unitL 5 1, 0⟩, ⟨1, unitL 6 1, 0⟩, ⟨1, unitL 7 1, 0⟩])

theorem st0_inv (l h : Int) (x : Nat → Int) (hx : ∀ j, j < 8 → l ≤ x j ∧ x j ≤ h) : AffInv (st0 l h) (line8 x) (line8 x) := by
  refine ⟨?_, rfl, ?_⟩
  · exact ⟨hx 0 (by omega), hx 1 (by omega), hx 2 (by omega), hx 3 (by omega), hx 4 (by omega), hx 5 (by omega), hx 6 (by omega), hx 7 (by omega), trivial⟩
  · intro i
    by_cases hi : i < 8
    · have key : ∀ n, n < 8 → FormOk ⟨1, unitL n 1, 0⟩ (line8 x) ((line8 x).getD n 0) := fun n hn =>
        ⟨by show (0 : Int) < 1; decide, by simp [unitL, line8]; omega, by rw [dot_unitL]; show (1 : Int) * _ = 1 * _ + 0; omega⟩
      match i, hi with
      | 0, _ => exact key 0 (by omega)
      | 1, _ => exact key 1 (by omega)
      | 2, _ => exact key 2 (by omega)
      | 3, _ => exact key 3 (by omega)
      | 4, _ => exact key 4 (by omega)
      | 5, _ => exact key 5 (by omega)
      | 6, _ => exact key 6 (by omega)
      | 7, _ => exact key 7 (by omega)
    · have e1 : getF (st0 l h).2 i = ⟨1, [], 0⟩ := by
        unfold getF st0
        rw [List.getD_eq_getElem?_getD, List.getElem?_eq_none (by simp; omega)]; rfl
      have e2 : (line8 x).getD i 0 = 0 := by rw [List.getD_eq_getElem?_getD, List.getElem?_eq_none (by simp [line8]; omega)]; rfl
      rw [e1, e2]
      exact ⟨by decide, by simp, by simp [dot]⟩

def rowOk (K : Int) (st : AffSt) (o : Nat) (row : LinRow) : Bool :=
  let f := getF st.2 o
  let m := K / f.q
  decide (0 < m) && decide (m * f.q = K) && decide (row.co = norm8 (smulL m (f.co.take 8))) && decide (row.elo ≤ m * (loD (f.co.drop 8) (st.1.drop 8) + f.k)) && decide (m * (hiD (f.co.drop 8) (st.1.drop 8) + f.k) ≤ row.ehi) &&
    decide ((row.ylo - 1) * f.q < loD f.co st.1 + f.k) && decide (hiD f.co st.1 + f.k < (row.yhi + 1) * f.q)

def rowsOk (K : Int) (st : AffSt) : List Nat → List LinRow → Bool
  | o :: os, r :: rs => rowOk K st o r && rowsOk K st os rs
  | [], [] => true
  | _, _ => false

def stageOk (K l h : Int) (p : List Ins) (outs : List Nat) (rows : List LinRow) : Bool :=
  match runF p (st0 l h) with
  | some st => rowsOk K st outs rows
  | none => false

structure RowSays (K : Int) (row : LinRow) (x : Nat → Int) (y : Int) : Prop where
  lin : ∃ e, K * y = S (fun j => row.co.getD j 0 * x j) + e ∧ row.elo ≤ e ∧ e ≤ row.ehi
  lo : row.ylo ≤ y
  hi : y ≤ row.yhi

theorem rowOk_says {K : Int} {st : AffSt} {o : Nat} {row : LinRow} {r u : List Int} {x : Nat → Int} (h : rowOk K st o row = true) (hi : AffInv st r (line8 x ++ u)) : RowSays K row x (r.getD o 0) := by
  unfold rowOk at h
  simp only [Bool.and_eq_true, decide_eq_true_eq] at h
  obtain ⟨⟨⟨⟨⟨⟨h1, h2⟩, h3⟩, h4⟩, h5⟩, h6⟩, h7⟩ := h
  have hf := hi.ok o
  generalize getF st.2 o = f at *
  generalize r.getD o 0 = y at *
  have hsp := dot_split (line8 x) f.co u
  have hl8 : (line8 x).length = 8 := rfl
  rw [hl8] at hsp
  have hub : InBox u (st.1.drop 8) := InBox.drop (x := line8 x) hi.box
  have b1 := loD_le (f.co.drop 8) u _ hub
  have b2 := le_hiD (f.co.drop 8) u _ hub
  have c1 := loD_le f.co _ _ hi.box
  have c2 := le_hiD f.co _ _ hi.box
  have hq := hf.eq
  generalize K / f.q = m at *
  refine ⟨⟨m * (dot (f.co.drop 8) u + f.k), ?_, ?_, ?_⟩, ?_, ?_⟩
  · rw [h3, ← dot_line8, dot_smulL, ← h2, Int.mul_assoc, hq, hsp, ← Int.mul_add]
    congr 1
    omega
  · exact Int.le_trans h4 (Int.mul_le_mul_of_nonneg_left (by omega) (by omega))
  · exact Int.le_trans (Int.mul_le_mul_of_nonneg_left (by omega) (by omega)) h5
  · have hlt : f.q * (row.ylo - 1) < f.q * y := by rw [Int.mul_comm]; omega
    have := Int.lt_of_mul_lt_mul_left hlt (by have := hf.pos; omega)
    omega
  · have hlt : f.q * y < f.q * (row.yhi + 1) := by rw [Int.mul_comm f.q (row.yhi + 1)]; omega
    have := Int.lt_of_mul_lt_mul_left hlt (by have := hf.pos; omega)
    omega

theorem rowsOk_says {K : Int} {st : AffSt} {r u : List Int} {x : Nat → Int} (hi : AffInv st r (line8 x ++ u)) : ∀ (outs : List Nat) (rows : List LinRow), rowsOk K st outs rows = true →
    ∀ c, c < rows.length → RowSays K (rows.getD c ⟨[], 0, 0, 0, 0⟩) x ((outs.map fun j => r.getD j 0).getD c 0) := by
  intro outs
  induction outs with
  | nil => intro rows h c hc; cases rows with
    | nil => simp at hc
    | cons a b => simp [rowsOk] at h
  | cons o os ih => intro rows h c hc; cases rows with
    | nil => simp at hc
    | cons a b =>
      simp only [rowsOk, Bool.and_eq_true] at h
      cases c with
      | zero =>
        rw [List.getD_cons_zero, List.map_cons, List.getD_cons_zero]
        exact rowOk_says h.1 hi
      | succ c =>
        rw [List.getD_cons_succ, List.map_cons, List.getD_cons_succ]
        exact ih b h.2 c (by simpa using hc)

/-- THE CHECKER IS SOUND. -/
theorem stageOk_says {K l h : Int} {p : List Ins} {outs : List Nat} {rows : List LinRow} (hok : stageOk K l h p outs rows = true) (x : Nat → Int) (hx : ∀ j, j < 8 → l ≤ x j ∧ x j ≤ h) (c : Nat) (hc : c < rows.length) :
    RowSays K (rows.getD c ⟨[], 0, 0, 0, 0⟩) x ((outsOf wrap32 p outs (line8 x)).getD c 0) := by
  unfold stageOk at hok
  split at hok
  · rename_i st hst
    obtain ⟨u, hu⟩ := runF_ok p _ _ _ _ hst (st0_inv l h x hx)
    exact rowsOk_says hu outs rows hok c hc
  · cases hok

end Go.Proofs.YtlibflbpajeeeaaDoor

namespace Go.Proofs.YtlibflbpajeeeaaDoor
open Go.RowKit

def fcK : Int := 4096
def fcRows : List LinRow := [⟨[1073741824, 1073741824, 1073741824, 1073741824, 1073741824, 1073741824, 1073741824, 1073741824], -1099511627776, -1099511627776, -268435456, 266338304⟩, ⟨[1489321984, 1262587904, 843632640, 296247296, -296247296, -843632640, -1262587904, -1489321984], 0, 0, -242286720, 242286720⟩, ⟨[1402912768, 581103616, -581103616, -1402912768, -1402912768, -581103616, 581103616, 1402912768], 0, 0, -247033290, 247033290⟩, ⟨[1262671245, -296265606, -1489420851, -843686727, 843686727, 1489420851, 296265606, -1262671245], -23722335, 0, -242308362, 242302570⟩, ⟨[1073741824, -1073741824, -1073741824, 1073741824, 1073741824, -1073741824, -1073741824, 1073741824], 0, 0, -267386880, 267386880⟩, ⟨[843686727, -1489420851, 296265606, 1262671245, -1262671245, -296265606, 1489420851, -843686727], -23722335, 0, -242308362, 242302570⟩, ⟨[581103616, -1402912768, 1402912768, -581103616, -581103616, 1402912768, -1402912768, 581103616], 0, 0, -247033290, 247033290⟩, ⟨[296247296, -843632640, 1262587904, -1489321984, 1489321984, -1262587904, 843632640, -296247296], 0, 0, -242286720, 242286720⟩]
theorem fc_ok : stageOk fcK 0 255 fcolIns fcolOuts fcRows = true := by decide +kernel
theorem fc_says (x : Nat → Int) (hx : ∀ j, j < 8 → (0 : Int) ≤ x j ∧ x j ≤ (255 : Int)) (c : Nat) (hc : c < 8) : RowSays fcK (fcRows.getD c ⟨[], 0, 0, 0, 0⟩) x ((fcol (line8 x)).getD c 0) :=
  stageOk_says fc_ok x hx c hc
def frK : Int := 70368744177664
def frRows : List LinRow := [⟨[268435456, 268435456, 268435456, 268435456, 268435456, 268435456, 268435456, 268435456], -35184103653376, 35184372088832, -8192, 8160⟩, ⟨[372326400, 315637760, 210911232, 74072064, -74072064, -210911232, -315637760, -372326400], -51123901825024, 35184372088832, -7409, 7409⟩, ⟨[350732288, 145276928, -145276928, -350732288, -350732288, -145276928, 145276928, 350732288], -43310222639104, 35184372088832, -7554, 7554⟩, ⟨[315644910, -74051320, -372318730, -210893340, 210893340, 372318730, 74051320, -315644910], -46574584112146, 45952318207202, -7408, 7408⟩, ⟨[268435456, -268435456, -268435456, 268435456, 268435456, -268435456, -268435456, 268435456], -35184103653376, 35184372088832, -8176, 8176⟩, ⟨[210893340, -372318730, 74051320, 315644910, -315644910, -74051320, 372318730, -210893340], -51242832476926, 41284069842422, -7408, 7408⟩, ⟨[145276928, -350732288, 350732288, -145276928, -145276928, 350732288, -350732288, 145276928], -37564175564800, 40930419163136, -7554, 7554⟩, ⟨[74072064, -210911232, 315637760, -372326400, 372326400, -315637760, 210911232, -74072064], -41568719699968, 44739554213888, -7409, 7409⟩]
theorem fr_ok : stageOk frK (-268435456) 267386880 frowIns frowOuts frRows = true := by decide +kernel
theorem fr_says (x : Nat → Int) (hx : ∀ j, j < 8 → (-268435456 : Int) ≤ x j ∧ x j ≤ (267386880 : Int)) (c : Nat) (hc : c < 8) : RowSays frK (frRows.getD c ⟨[], 0, 0, 0, 0⟩) x ((frow (line8 x)).getD c 0) :=
  stageOk_says fr_ok x hx c hc
def frrK : Int := 70368744177664
def frrRows : List LinRow := [⟨[268435456, 268435456, 268435456, 268435456, 268435456, 268435456, 268435456, 268435456], -35184103653376, 35184372088832, -8160, 8160⟩, ⟨[372326400, 315637760, 210911232, 74072064, -74072064, -210911232, -315637760, -372326400], -51123901825024, 35184372088832, -7394, 7394⟩, ⟨[350732288, 145276928, -145276928, -350732288, -350732288, -145276928, 145276928, 350732288], -43310222639104, 35184372088832, -7539, 7539⟩, ⟨[315644910, -74051320, -372318730, -210893340, 210893340, 372318730, 74051320, -315644910], -46574584112146, 45952318207202, -7394, 7394⟩, ⟨[268435456, -268435456, -268435456, 268435456, 268435456, -268435456, -268435456, 268435456], -35184103653376, 35184372088832, -8160, 8160⟩, ⟨[210893340, -372318730, 74051320, 315644910, -315644910, -74051320, 372318730, -210893340], -51242832476926, 41284069842422, -7394, 7394⟩, ⟨[145276928, -350732288, 350732288, -145276928, -145276928, 350732288, -350732288, 145276928], -37564175564800, 40930419163136, -7539, 7539⟩, ⟨[74072064, -210911232, 315637760, -372326400, 372326400, -315637760, 210911232, -74072064], -41568719699968, 44739554213888, -7394, 7394⟩]
theorem frr_ok : stageOk frrK (-267386880) 267386880 frowIns frowOuts frrRows = true := by decide +kernel
theorem frr_says (x : Nat → Int) (hx : ∀ j, j < 8 → (-267386880 : Int) ≤ x j ∧ x j ≤ (267386880 : Int)) (c : Nat) (hc : c < 8) : RowSays frrK (frrRows.getD c ⟨[], 0, 0, 0, 0⟩) x ((frow (line8 x)).getD c 0) :=
  stageOk_says frr_ok x hx c hc
def irK : Int := 4
def irRows : List LinRow := [⟨[524288, 727296, 685016, 616486, 524288, 411956, 283744, 144640], -17046, 0, -1003918474, 1003914212⟩, ⟨[524288, 616448, 283744, -144619, -524288, -727077, -685016, -411904], -14448, 0, -1003833262, 1003829650⟩, ⟨[524288, 411904, -283744, -727077, -524288, 144619, 685016, 616448], -12051, 2397, -1003832662, 1003830249⟩, ⟨[524288, 144640, -685016, -411956, 524288, 616486, -283744, -727296], -10218, 6828, -1003916767, 1003915919⟩, ⟨[524288, -144640, -685016, 411956, 524288, -616486, -283744, 727296], -6828, 10218, -1003915919, 1003916767⟩, ⟨[524288, -411904, -283744, 727077, -524288, -144619, 685016, -616448], -2397, 12051, -1003830249, 1003832662⟩, ⟨[524288, -616448, 283744, 144619, -524288, 727077, -685016, 411904], 0, 14448, -1003829650, 1003833262⟩, ⟨[524288, -727296, 685016, -616486, 524288, -411956, 283744, -144640], 0, 17046, -1003914212, 1003918474⟩]
theorem ir_ok : stageOk irK (-1025) 1025 irowIns irowOuts irRows = true := by decide +kernel
theorem ir_says (x : Nat → Int) (hx : ∀ j, j < 8 → (-1025 : Int) ≤ x j ∧ x j ≤ (1025 : Int)) (c : Nat) (hc : c < 8) : RowSays irK (irRows.getD c ⟨[], 0, 0, 0, 0⟩) x ((irow (line8 x)).getD c 0) :=
  stageOk_says ir_ok x hx c hc
def icK : Int := 35184372088832
def icRows : List LinRow := [⟨[33554432, 46546944, 43843584, 39458510, 33554432, 26367460, 18153472, 9256960], -19401729479502, 17592186044416, -961, 957⟩, ⟨[33554432, 39452672, 18153472, -9256415, -33554432, -46536945, -43843584, -26361856], -18387200704512, 18408312252720, -958, 959⟩, ⟨[33554432, 26361856, -18153472, -46536945, -33554432, 9256415, 43843584, 39452672], -18566214287905, 18229298669327, -959, 958⟩, ⟨[33554432, 9256960, -43843584, -26367460, 33554432, 39458510, -18153472, -46546944], -18372474825010, 18621440698908, -959, 959⟩, ⟨[33554432, -9256960, -43843584, 26367460, 33554432, -39458510, -18153472, 46546944], -18113589258780, 18880326265138, -959, 959⟩, ⟨[33554432, -26361856, -18153472, 46536945, -33554432, -9256415, 43843584, -39452672], -18439692822287, 18355820134945, -959, 959⟩, ⟨[33554432, -39452672, 18153472, 9256415, -33554432, 46536945, -43843584, 26361856], -18197850990896, 18597661966336, -959, 959⟩, ⟨[33554432, -46546944, 43843584, -39458510, 33554432, -26367460, 18153472, -9256960], -18099970375680, 18893945148238, -959, 959⟩]
theorem ic_ok : stageOk icK (-134814314) 134287978 icolIns icolOuts icRows = true := by decide +kernel
theorem ic_says (x : Nat → Int) (hx : ∀ j, j < 8 → (-134814314 : Int) ≤ x j ∧ x j ≤ (134287978 : Int)) (c : Nat) (hc : c < 8) : RowSays icK (icRows.getD c ⟨[], 0, 0, 0, 0⟩) x ((icol (line8 x)).getD c 0) :=
  stageOk_says ic_ok x hx c hc

end Go.Proofs.YtlibflbpajeeeaaDoor

namespace Go.Proofs.YtlibflbpajeeeaaDoor
open Go.RowKit Go.Sort

theorem putAll_other (p : Nat → Nat) (y : List Int) (i : Nat) : ∀ (l : List Nat) (d : Array Int), (∀ j ∈ l, p j ≠ i) → (putAll p y l d)[i]! = d[i]! := by
  intro l
  induction l with
  | nil => intro d _; rfl
  | cons j r ih =>
    intro d h
    rw [putAll, ih _ (fun a ha => h a (List.mem_cons_of_mem _ ha))]
    exact getElem!_set_other d (p j) i _ (fun e => h j (List.mem_cons_self) e.symm)

theorem putAll_same (p : Nat → Nat) (y : List Int) (j : Nat) : ∀ (l : List Nat) (d : Array Int), j ∈ l → l.Nodup → (∀ a ∈ l, p a = p j → a = j) → p j < d.size → (putAll p y l d)[p j]! = y.getD j 0 := by
  intro l
  induction l with
  | nil => intro d h; cases h
  | cons a r ih =>
    intro d h hn hp hs
    rw [putAll]
    by_cases e : a = j
    · subst e
      rw [putAll_other p y (p a) r _ (fun b hb hpb => by
        have := hp b (List.mem_cons_of_mem _ hb) hpb
        subst this
        exact (List.nodup_cons.1 hn).1 hb)]
      exact getElem!_set_same d (p a) _ hs
    · have hr : j ∈ r := by
        rcases List.mem_cons.1 h with h | h
        · exact absurd h.symm e
        · exact h
      exact ih _ hr (List.nodup_cons.1 hn).2 (fun b hb => hp b (List.mem_cons_of_mem _ hb)) (by simpa using hs)

/-- What eight steps make of a block whose lines lie apart. -/
theorem steps_get (at_ : Nat → Nat → Nat) (ord : List Nat) (f : List Int → List Int) (d : Array Int) (hd : d.size = 64)
    (hord : ord.Nodup) (hmem : ∀ j, j ∈ ord ↔ j < 8)
    (hlt : ∀ k j, k < 8 → j < 8 → at_ k j < 64) (hinj : ∀ k j k' j', k < 8 → j < 8 → k' < 8 → j' < 8 → at_ k j = at_ k' j' → k = k' ∧ j = j') :
    ∀ K, K ≤ 8 → ∀ k j, k < 8 → j < 8 → (steps at_ ord f K d)[at_ k j]! = if k < K then (f (line (at_ k) d)).getD j 0 else d[at_ k j]! := by
  intro K
  induction K with
  | zero => intro _ k j _ _; simp [steps]
  | succ K ih =>
    intro hK k j hk hj
    have hline : line (at_ K) (steps at_ ord f K d) = line (at_ K) d := by
      unfold line
      have e : ∀ j, j < 8 → (steps at_ ord f K d)[at_ K j]! = d[at_ K j]! := fun j hj => by
        rw [ih (by omega) K j (by omega) hj, if_neg (by omega)]
      rw [e 0 (by omega), e 1 (by omega), e 2 (by omega), e 3 (by omega), e 4 (by omega), e 5 (by omega), e 6 (by omega), e 7 (by omega)]
    rw [steps, stepAt, hline]
    by_cases e : k = K
    · subst e
      rw [if_pos (by omega)]
      refine putAll_same _ _ j _ _ ((hmem j).2 hj) hord (fun a ha hp => (hinj k a k j hk ((hmem a).1 ha) hk hj hp).2) ?_
      rw [size_steps, hd]
      exact hlt k j hk hj
    · rw [putAll_other _ _ _ _ _ (fun a ha hp => e (hinj K a k j (by omega) ((hmem a).1 ha) hk hj hp).1.symm), ih (by omega) k j hk hj]
      by_cases h : k < K
      · rw [if_pos h, if_pos (by omega)]
      · rw [if_neg h, if_neg (by omega)]

theorem ordAll_mem (j : Nat) : j ∈ ordAll ↔ j < 8 := by unfold ordAll; simp; omega
theorem ordF_mem (j : Nat) : j ∈ ordF ↔ j < 8 := by unfold ordF; simp; omega

theorem rows_get (f : List Int → List Int) (d : Array Int) (hd : d.size = 64) (r c : Nat) (hr : r < 8) (hc : c < 8) : (steps rowAt ordAll f 8 d)[8 * r + c]! = (f (line (rowAt r) d)).getD c 0 := by
  have h := steps_get rowAt ordAll f d hd (by decide) ordAll_mem (fun k j hk hj => by unfold rowAt; omega) (fun k j k' j' _ _ _ _ h => by unfold rowAt at h; omega) 8 (Nat.le_refl _) r c hr hc
  rw [if_pos hr] at h
  exact h
theorem cols_get (ord : List Nat) (hn : ord.Nodup) (hm : ∀ j, j ∈ ord ↔ j < 8) (f : List Int → List Int) (d : Array Int) (hd : d.size = 64) (r c : Nat) (hr : r < 8) (hc : c < 8) :
    (steps colAt ord f 8 d)[8 * r + c]! = (f (line (colAt c) d)).getD r 0 := by
  have h := steps_get colAt ord f d hd hn hm (fun k j hk hj => by unfold colAt; omega) (fun k j k' j' _ _ _ _ h => by unfold colAt at h; omega) 8 (Nat.le_refl _) c r hc hr
  rw [if_pos hc] at h
  exact h

theorem irows_get (d : Array Int) (hd : d.size = 64) (r c : Nat) (hr : r < 8) (hc : c < 8) : (irowsA d)[8 * r + c]! = (irow (line (rowAt r) d)).getD c 0 := rows_get _ _ hd _ _ hr hc
theorem frows_get (d : Array Int) (hd : d.size = 64) (r c : Nat) (hr : r < 8) (hc : c < 8) : (frowsA d)[8 * r + c]! = (frow (line (rowAt r) d)).getD c 0 := rows_get _ _ hd _ _ hr hc
theorem icols_get (d : Array Int) (hd : d.size = 64) (r c : Nat) (hr : r < 8) (hc : c < 8) : (icolsA d)[8 * r + c]! = (icol (line (colAt c) d)).getD r 0 := cols_get _ (by decide) ordAll_mem _ _ hd _ _ hr hc
theorem fcols_get (d : Array Int) (hd : d.size = 64) (r c : Nat) (hr : r < 8) (hc : c < 8) : (fcolsA d)[8 * r + c]! = (fcol (line (colAt c) d)).getD r 0 := cols_get _ (by decide) ordF_mem _ _ hd _ _ hr hc

end Go.Proofs.YtlibflbpajeeeaaDoor

namespace Go.Proofs.YtlibflbpajeeeaaDoor
open Go.RowKit Go.Sort

/-! ### Sums of eight -/
theorem S_congr {f g : Nat → Int} (h : ∀ j, j < 8 → f j = g j) : S f = S g := by
  unfold S
  rw [h 0 (by omega), h 1 (by omega), h 2 (by omega), h 3 (by omega), h 4 (by omega), h 5 (by omega), h 6 (by omega), h 7 (by omega)]
theorem S_add (f g : Nat → Int) : S (fun j => f j + g j) = S f + S g := by simp only [S]; omega
theorem S_sub (f g : Nat → Int) : S (fun j => f j - g j) = S f - S g := by simp only [S]; omega
theorem S_mul (c : Int) (f : Nat → Int) : S (fun j => c * f j) = c * S f := by simp only [S, Int.mul_add]
theorem S_mulr (c : Int) (f : Nat → Int) : S (fun j => f j * c) = S f * c := by simp only [S, Int.add_mul]
theorem S_mono {f g : Nat → Int} (h : ∀ j, j < 8 → f j ≤ g j) : S f ≤ S g := by
  unfold S
  have := h 0 (by omega); have := h 1 (by omega); have := h 2 (by omega); have := h 3 (by omega); have := h 4 (by omega); have := h 5 (by omega); have := h 6 (by omega); have := h 7 (by omega)
  omega
theorem S_comm (f : Nat → Nat → Int) : S (fun i => S (fun j => f i j)) = S (fun j => S (fun i => f i j)) := by simp only [S]; omega
theorem S_one (u : Nat) (hu : u < 8) (f : Nat → Int) : S (fun n => if n = u then f n else 0) = f u := by
  match u, hu with
  | 0, _ => simp [S]
  | 1, _ => simp [S]
  | 2, _ => simp [S]
  | 3, _ => simp [S]
  | 4, _ => simp [S]
  | 5, _ => simp [S]
  | 6, _ => simp [S]
  | 7, _ => simp [S]

theorem fc_range : ∀ j, j < 8 → (-268435456 : Int) ≤ (fcRows.getD j ⟨[], 0, 0, 0, 0⟩).ylo ∧ (fcRows.getD j ⟨[], 0, 0, 0, 0⟩).yhi ≤ (267386880 : Int) := by decide +kernel
theorem fr_range : ∀ j, j < 8 → (-8192 : Int) ≤ (frRows.getD j ⟨[], 0, 0, 0, 0⟩).ylo ∧ (frRows.getD j ⟨[], 0, 0, 0, 0⟩).yhi ≤ (8176 : Int) := by decide +kernel
def mlo (a l h : Int) : Int := if 0 ≤ a then a * l else a * h
def mhi (a l h : Int) : Int := if 0 ≤ a then a * h else a * l
def cf (rows : List LinRow) (i j : Nat) : Int := (rows.getD i ⟨[], 0, 0, 0, 0⟩).co.getD j 0
def el (rows : List LinRow) (i : Nat) : Int := (rows.getD i ⟨[], 0, 0, 0, 0⟩).elo
def eh (rows : List LinRow) (i : Nat) : Int := (rows.getD i ⟨[], 0, 0, 0, 0⟩).ehi

/-! ### Rows there and back -/
def trK : Int := 2251799813685248
def qTab : List (List Int) := [[1125928391876356, 24180687656, 26504209636, 34339359280, -41757248048, -24179778788, -26505118504, -21067144964], [26499186298, 1125816721447194, 2993126742, 24176668238, -26501099086, -10411015510, 90603284198, -24174755450], [24176668238, -10411015510, 1125816721447194, -24174755450, 26499186298, 90603284198, 2993126742, -26501099086], [-41757248048, 26504209636, -26505118504, 1125928391876356, -21067144964, 24180687656, -24179778788, 34339359280], [34339359280, -24179778788, 24180687656, -21067144964, 1125928391876356, -26505118504, 26504209636, -41757248048], [-26501099086, 2993126742, 90603284198, 26499186298, -24174755450, 1125816721447194, -10411015510, 24176668238], [-24174755450, 90603284198, -10411015510, -26501099086, 24176668238, 2993126742, 1125816721447194, 26499186298], [-21067144964, -26505118504, -24179778788, -41757248048, 34339359280, 26504209636, 24180687656, 1125928391876356]]
def qm (v m : Nat) : Int := (qTab.getD v []).getD m 0
def erLo : List Int := [-1282571593666241107012, -1274605330656398727172, -1269543097862036935636, -1271553786894592188828, -1259150666144457447468, -1258509686483617750892, -1262670637815844182844, -1257355231806766278020]
def erHi : List Int := [1252744327064764114308, 1258059045752550071100, 1263121278546911862636, 1263762133836413032492, 1276165254586547773852, 1274154689925331047380, 1269993738593104615428, 1277960688924238943300]
theorem trK_eq : trK = frK * (8 * irK) := by decide +kernel
theorem qm_eq : ∀ v, v < 8 → ∀ m, m < 8 → qm v m = S (fun l => cf irRows v l * cf frRows l m) := by decide +kernel
theorem er_ok : ∀ v, v < 8 → erLo.getD v 0 ≤ S (fun l => mlo (cf irRows v l) (el frRows l - 4 * frK) (eh frRows l + 4 * frK)) + 8 * frK * el irRows v ∧
    S (fun l => mhi (cf irRows v l) (el frRows l - 4 * frK) (eh frRows l + 4 * frK)) + 8 * frK * eh irRows v ≤ erHi.getD v 0 := by decide +kernel
theorem wbox_ok : ∀ v, v < 8 → (-134814314 - 1) * trK < S (fun m => mlo (qm v m) (-268435456) (267386880)) + erLo.getD v 0 ∧ S (fun m => mhi (qm v m) (-268435456) (267386880)) + erHi.getD v 0 < (134287978 + 1) * trK := by decide +kernel

theorem rows_comp (Y Z q W : Nat → Int) (hY : ∀ m, m < 8 → (-268435456 : Int) ≤ Y m ∧ Y m ≤ (267386880 : Int)) (hZ : ∀ l, l < 8 → RowSays frK (frRows.getD l ⟨[], 0, 0, 0, 0⟩) Y (Z l))
    (hq : ∀ l, l < 8 → -4 ≤ 8 * q l - Z l ∧ 8 * q l - Z l ≤ 4) (hW : ∀ v, v < 8 → RowSays irK (irRows.getD v ⟨[], 0, 0, 0, 0⟩) q (W v)) (v : Nat) (hv : v < 8) :
    (∃ e, trK * W v = S (fun m => qm v m * Y m) + e ∧ erLo.getD v 0 ≤ e ∧ e ≤ erHi.getD v 0) ∧ (-134814314 : Int) ≤ W v ∧ W v ≤ (134287978 : Int) := by
  obtain ⟨e4, h4, h4a, h4b⟩ := (hW v hv).lin
  have hfr : (0 : Int) < frK := by decide
  have hE : ∀ l, l < 8 → ∃ E, frK * (8 * q l) = S (fun m => cf frRows l m * Y m) + E ∧ el frRows l - 4 * frK ≤ E ∧ E ≤ eh frRows l + 4 * frK := by
    intro l hl
    obtain ⟨e2, h2, h2a, h2b⟩ := (hZ l hl).lin
    obtain ⟨g1, g2⟩ := hq l hl
    have a1 := Int.mul_le_mul_of_nonneg_left g1 (Int.le_of_lt hfr)
    have a2 := Int.mul_le_mul_of_nonneg_left g2 (Int.le_of_lt hfr)
    refine ⟨e2 + frK * (8 * q l - Z l), ?_, ?_, ?_⟩
    · rw [Int.mul_sub, h2]; unfold cf; omega
    · unfold el; omega
    · unfold eh; omega
  have hch : ∃ E : Nat → Int, ∀ l, l < 8 → frK * (8 * q l) = S (fun m => cf frRows l m * Y m) + E l ∧ el frRows l - 4 * frK ≤ E l ∧ E l ≤ eh frRows l + 4 * frK := by
    refine ⟨fun l => frK * (8 * q l) - S (fun m => cf frRows l m * Y m), fun l hl => ?_⟩
    obtain ⟨E, h1, h2, h3⟩ := hE l hl
    dsimp only
    refine ⟨by omega, by omega, by omega⟩
  obtain ⟨E, hE⟩ := hch
  have key : trK * W v = S (fun m => qm v m * Y m) + (S (fun l => cf irRows v l * E l) + 8 * frK * e4) := by
    have e1 : trK * W v = frK * (8 * (irK * W v)) := by rw [trK_eq, Int.mul_assoc, Int.mul_assoc]
    have e2 : frK * (8 * S (fun j => (irRows.getD v ⟨[], 0, 0, 0, 0⟩).co.getD j 0 * q j)) = S (fun l => cf irRows v l * (S (fun m => cf frRows l m * Y m) + E l)) := by
      rw [← S_mul 8, ← S_mul frK]
      refine S_congr fun l hl => ?_
      rw [← (hE l hl).1]
      show frK * (8 * (cf irRows v l * q l)) = cf irRows v l * (frK * (8 * q l))
      rw [Int.mul_left_comm 8, Int.mul_left_comm frK]
    have e3 : S (fun l => cf irRows v l * (S (fun m => cf frRows l m * Y m) + E l)) = S (fun m => qm v m * Y m) + S (fun l => cf irRows v l * E l) := by
      have f1 : S (fun l => cf irRows v l * (S (fun m => cf frRows l m * Y m) + E l)) = S (fun l => S (fun m => cf irRows v l * (cf frRows l m * Y m)) + cf irRows v l * E l) :=
        S_congr fun l _ => by rw [Int.mul_add, S_mul]
      rw [f1, S_add, S_comm]
      congr 1
      refine S_congr fun m hm => ?_
      rw [qm_eq v hv m hm, ← S_mulr]
      exact S_congr fun l _ => by rw [Int.mul_assoc]
    rw [e1, h4, Int.mul_add, Int.mul_add, e2, e3]
    have : frK * (8 * e4) = 8 * frK * e4 := by rw [Int.mul_left_comm, Int.mul_assoc]
    omega
  have hb1 : S (fun l => mlo (cf irRows v l) (el frRows l - 4 * frK) (eh frRows l + 4 * frK)) ≤ S (fun l => cf irRows v l * E l) := S_mono fun l hl => mul_lo _ _ _ _ (hE l hl).2.1 (hE l hl).2.2
  have hb2 : S (fun l => cf irRows v l * E l) ≤ S (fun l => mhi (cf irRows v l) (el frRows l - 4 * frK) (eh frRows l + 4 * frK)) := S_mono fun l hl => mul_hi _ _ _ _ (hE l hl).2.1 (hE l hl).2.2
  have hc1 : 8 * frK * el irRows v ≤ 8 * frK * e4 := Int.mul_le_mul_of_nonneg_left h4a (by decide)
  have hc2 : 8 * frK * e4 ≤ 8 * frK * eh irRows v := Int.mul_le_mul_of_nonneg_left h4b (by decide)
  obtain ⟨er1, er2⟩ := er_ok v hv
  have hlo : erLo.getD v 0 ≤ S (fun l => cf irRows v l * E l) + 8 * frK * e4 := by omega
  have hhi : S (fun l => cf irRows v l * E l) + 8 * frK * e4 ≤ erHi.getD v 0 := by omega
  refine ⟨⟨_, key, hlo, hhi⟩, ?_⟩
  obtain ⟨w1, w2⟩ := wbox_ok v hv
  have d1 : S (fun m => mlo (qm v m) (-268435456) (267386880)) ≤ S (fun m => qm v m * Y m) := S_mono fun m hm => mul_lo _ _ _ _ (hY m hm).1 (hY m hm).2
  have d2 : S (fun m => qm v m * Y m) ≤ S (fun m => mhi (qm v m) (-268435456) (267386880)) := S_mono fun m hm => mul_hi _ _ _ _ (hY m hm).1 (hY m hm).2
  have ht : (0 : Int) ≤ trK := by decide
  have g1 : trK * (-134814314 - 1) < trK * W v := by rw [Int.mul_comm trK (-134814314 - 1)]; omega
  have g2 : trK * W v < trK * (134287978 + 1) := by rw [Int.mul_comm trK (134287978 + 1)]; omega
  have k1 := Int.lt_of_mul_lt_mul_left g1 ht
  have k2 := Int.lt_of_mul_lt_mul_left g2 ht
  omega

/-! ### Columns there and back -/
def tK : Int := 324518553658426726783156020576256
def pTab : List (List Int) := [[288250104379208626, 7618318944704, -12236601816498, 5446682838386, -5802628253042, -7618495121998, 12236777993792, -19372282082226], [-12236232785066, 288223008293025213, -1375356187577, 7618821743644, 12236275194852, 1019410772921, 7723804101187, -7618864153430], [7618821743644, 1019410772921, 288223008293025213, -7618864153430, -12236232785066, 7723804101187, -1375356187577, 12236275194852], [-5802628253042, -12236601816498, 12236777993792, 288250104379208626, -19372282082226, 7618318944704, -7618495121998, 5446682838386], [5446682838386, -7618495121998, 7618318944704, -19372282082226, 288250104379208626, 12236777993792, -12236601816498, -5802628253042], [12236275194852, -1375356187577, 7723804101187, -12236232785066, -7618864153430, 288223008293025213, 1019410772921, 7618821743644], [-7618864153430, 7723804101187, 1019410772921, 12236275194852, 7618821743644, -1375356187577, 288223008293025213, -12236232785066], [-19372282082226, 12236777993792, -7618495121998, -5802628253042, 5446682838386, -12236601816498, 7618318944704, 288250104379208626]]
def pm (u n : Nat) : Int := (pTab.getD u []).getD n 0
theorem tK_eq : tK = fcK * (trK * icK) := by decide +kernel
theorem pm_eq : ∀ u, u < 8 → ∀ n, n < 8 → pm u n = S (fun j => cf icRows u j * cf fcRows j n) := by decide +kernel
def dm (u v n m : Nat) : Int := pm u n * qm v m - (if n = u then (if m = v then tK else 0) else 0)
def totLo (u v : Nat) : Int := S (fun n => S (fun m => mlo (dm u v n m) 0 255)) + S (fun j => S (fun m => mlo (cf icRows u j * qm v m) (el fcRows j) (eh fcRows j))) + S (fun j => mlo (cf icRows u j * fcK) (erLo.getD v 0) (erHi.getD v 0)) + fcK * trK * el icRows u
def totHi (u v : Nat) : Int := S (fun n => S (fun m => mhi (dm u v n m) 0 255)) + S (fun j => S (fun m => mhi (cf icRows u j * qm v m) (el fcRows j) (eh fcRows j))) + S (fun j => mhi (cf icRows u j * fcK) (erLo.getD v 0) (erHi.getD v 0)) + fcK * trK * eh icRows u
theorem tot_ok : ∀ u, u < 8 → ∀ v, v < 8 → tK * (-6) < totLo u v + tK * 128 ∧ totHi u v + tK * 128 < tK * 6 := by decide +kernel

def pmj (u v j n m : Nat) : Int := cf icRows u j * qm v m * cf fcRows j n

theorem cols_comp (X Y W : Nat → Nat → Int) (hX : ∀ n, n < 8 → ∀ m, m < 8 → (0 : Int) ≤ X n m ∧ X n m ≤ (255 : Int))
    (hY : ∀ j, j < 8 → ∀ m, m < 8 → RowSays fcK (fcRows.getD j ⟨[], 0, 0, 0, 0⟩) (fun n => X n m) (Y j m))
    (u v : Nat) (hu : u < 8) (hv : v < 8) (hW : ∀ j, j < 8 → ∃ e, trK * W j v = S (fun m => qm v m * Y j m) + e ∧ erLo.getD v 0 ≤ e ∧ e ≤ erHi.getD v 0)
    (O : Int) (hO : RowSays icK (icRows.getD u ⟨[], 0, 0, 0, 0⟩) (fun j => W j v) O) : -5 ≤ O + 128 - X u v ∧ O + 128 - X u v ≤ 5 := by
  obtain ⟨e5, h5, h5a, h5b⟩ := hO.lin
  have hch1 : ∃ E1 : Nat → Nat → Int, ∀ j, j < 8 → ∀ m, m < 8 → fcK * Y j m = S (fun n => cf fcRows j n * X n m) + E1 j m ∧ el fcRows j ≤ E1 j m ∧ E1 j m ≤ eh fcRows j := by
    refine ⟨fun j m => fcK * Y j m - S (fun n => cf fcRows j n * X n m), fun j hj m hm => ?_⟩
    obtain ⟨e, h1, h2, h3⟩ := (hY j hj m hm).lin
    unfold el eh cf
    dsimp only
    refine ⟨by omega, by omega, by omega⟩
  obtain ⟨E1, hE1⟩ := hch1
  have hch2 : ∃ R : Nat → Int, ∀ j, j < 8 → trK * W j v = S (fun m => qm v m * Y j m) + R j ∧ erLo.getD v 0 ≤ R j ∧ R j ≤ erHi.getD v 0 := by
    refine ⟨fun j => trK * W j v - S (fun m => qm v m * Y j m), fun j hj => ?_⟩
    obtain ⟨e, h1, h2, h3⟩ := hW j hj
    dsimp only
    refine ⟨by omega, by omega, by omega⟩
  obtain ⟨R, hR⟩ := hch2
  have key : tK * O = S (fun n => S (fun m => pm u n * qm v m * X n m)) + (S (fun j => S (fun m => cf icRows u j * qm v m * E1 j m)) + S (fun j => cf icRows u j * fcK * R j) + fcK * trK * e5) := by
    have a1 : tK * O = fcK * (trK * (icK * O)) := by rw [tK_eq, Int.mul_assoc, Int.mul_assoc]
    have a2 : fcK * (trK * S (fun j => (icRows.getD u ⟨[], 0, 0, 0, 0⟩).co.getD j 0 * W j v)) = S (fun j => cf icRows u j * (fcK * (trK * W j v))) := by
      rw [← S_mul trK, ← S_mul fcK]
      refine S_congr fun j _ => ?_
      show fcK * (trK * (cf icRows u j * W j v)) = cf icRows u j * (fcK * (trK * W j v))
      rw [Int.mul_left_comm trK, Int.mul_left_comm fcK]
    have a3 : S (fun j => cf icRows u j * (fcK * (trK * W j v))) = S (fun j => S (fun m => S (fun n => pmj u v j n m * X n m)) + (S (fun m => cf icRows u j * qm v m * E1 j m) + cf icRows u j * fcK * R j)) := by
      refine S_congr fun j hj => ?_
      rw [(hR j hj).1, Int.mul_add, Int.mul_add, ← S_mul fcK, ← S_mul (cf icRows u j)]
      have b1 : S (fun m => cf icRows u j * (fcK * (qm v m * Y j m))) = S (fun m => S (fun n => pmj u v j n m * X n m) + cf icRows u j * qm v m * E1 j m) := by
        refine S_congr fun m hm => ?_
        rw [Int.mul_left_comm fcK, (hE1 j hj m hm).1, ← Int.mul_assoc, Int.mul_add, ← S_mul]
        congr 1
        refine S_congr fun n _ => ?_
        unfold pmj
        rw [← Int.mul_assoc]
      rw [b1, S_add, Int.mul_assoc]
      omega
    have a4 : S (fun j => S (fun m => S (fun n => pmj u v j n m * X n m))) = S (fun n => S (fun m => pm u n * qm v m * X n m)) := by
      have c1 : S (fun j => S (fun m => S (fun n => pmj u v j n m * X n m))) = S (fun j => S (fun n => S (fun m => pmj u v j n m * X n m))) := S_congr fun j _ => S_comm _
      rw [c1, S_comm]
      refine S_congr fun n hn => ?_
      rw [S_comm]
      refine S_congr fun m _ => ?_
      rw [pm_eq u hu n hn, S_mulr (X n m), ← S_mulr (qm v m)]
      congr 1
      refine S_congr fun j _ => ?_
      unfold pmj
      rw [Int.mul_assoc, Int.mul_comm (qm v m), ← Int.mul_assoc]
    rw [a1, h5, Int.mul_add, Int.mul_add, a2, a3, S_add, S_add, a4, ← Int.mul_assoc fcK trK e5]
    omega
  have hd : S (fun n => S (fun m => dm u v n m * X n m)) = S (fun n => S (fun m => pm u n * qm v m * X n m)) - tK * X u v := by
    have b0 : S (fun n => S (fun m => dm u v n m * X n m)) = S (fun n => S (fun m => pm u n * qm v m * X n m) - (if n = u then tK * X n v else 0)) := by
      refine S_congr fun n _ => ?_
      by_cases hn : n = u
      · rw [if_pos hn]
        have b1 : S (fun m => dm u v n m * X n m) = S (fun m => pm u n * qm v m * X n m - (if m = v then tK * X n m else 0)) := by
          refine S_congr fun m _ => ?_
          unfold dm
          rw [if_pos hn, Int.sub_mul]
          by_cases hm : m = v
          · rw [if_pos hm, if_pos hm]
          · rw [if_neg hm, if_neg hm, Int.zero_mul]
        rw [b1, S_sub, S_one v hv]
      · rw [if_neg hn, Int.sub_zero]
        refine S_congr fun m _ => ?_
        unfold dm
        rw [if_neg hn, Int.sub_zero]
    rw [b0, S_sub, S_one u hu]
  have l1 : S (fun n => S (fun m => mlo (dm u v n m) 0 255)) ≤ S (fun n => S (fun m => dm u v n m * X n m)) := S_mono fun n hn => S_mono fun m hm => mul_lo _ _ _ _ (hX n hn m hm).1 (hX n hn m hm).2
  have l2 : S (fun n => S (fun m => dm u v n m * X n m)) ≤ S (fun n => S (fun m => mhi (dm u v n m) 0 255)) := S_mono fun n hn => S_mono fun m hm => mul_hi _ _ _ _ (hX n hn m hm).1 (hX n hn m hm).2
  have l3 : S (fun j => S (fun m => mlo (cf icRows u j * qm v m) (el fcRows j) (eh fcRows j))) ≤ S (fun j => S (fun m => cf icRows u j * qm v m * E1 j m)) := S_mono fun j hj => S_mono fun m hm => mul_lo _ _ _ _ (hE1 j hj m hm).2.1 (hE1 j hj m hm).2.2
  have l4 : S (fun j => S (fun m => cf icRows u j * qm v m * E1 j m)) ≤ S (fun j => S (fun m => mhi (cf icRows u j * qm v m) (el fcRows j) (eh fcRows j))) := S_mono fun j hj => S_mono fun m hm => mul_hi _ _ _ _ (hE1 j hj m hm).2.1 (hE1 j hj m hm).2.2
  have l5 : S (fun j => mlo (cf icRows u j * fcK) (erLo.getD v 0) (erHi.getD v 0)) ≤ S (fun j => cf icRows u j * fcK * R j) := S_mono fun j hj => mul_lo _ _ _ _ (hR j hj).2.1 (hR j hj).2.2
  have l6 : S (fun j => cf icRows u j * fcK * R j) ≤ S (fun j => mhi (cf icRows u j * fcK) (erLo.getD v 0) (erHi.getD v 0)) := S_mono fun j hj => mul_hi _ _ _ _ (hR j hj).2.1 (hR j hj).2.2
  have l7 : fcK * trK * el icRows u ≤ fcK * trK * e5 := Int.mul_le_mul_of_nonneg_left h5a (by decide)
  have l8 : fcK * trK * e5 ≤ fcK * trK * eh icRows u := Int.mul_le_mul_of_nonneg_left h5b (by decide)
  obtain ⟨t1, t2⟩ := tot_ok u hu v hv
  unfold totLo at t1
  unfold totHi at t2
  have hm : tK * (O + 128 - X u v) = tK * O + tK * 128 - tK * X u v := by rw [Int.mul_sub, Int.mul_add]
  have g1 : tK * (-6) < tK * (O + 128 - X u v) := by omega
  have g2 : tK * (O + 128 - X u v) < tK * 6 := by omega
  have ht : (0 : Int) ≤ tK := by decide
  have k1 := Int.lt_of_mul_lt_mul_left g1 ht
  have k2 := Int.lt_of_mul_lt_mul_left g2 ht
  omega

/-! ### The law -/
theorem line_is (p : Nat → Nat) (d : Array Int) : line p d = line8 (fun j => d[p j]!) := rfl

/-- Each number of the forward transform of a block of numbers from 0 to 255. -/
theorem forward_bounds (d : Array Int) (hd : d.size = 64) (hb : ∀ k, k < 64 → (0 : Int) ≤ d[k]! ∧ d[k]! ≤ (255 : Int)) (j l : Nat) (hj : j < 8) (hl : l < 8) :
    (-8192 : Int) ≤ (frowsA (fcolsA d))[8 * j + l]! ∧ (frowsA (fcolsA d))[8 * j + l]! ≤ (8191 : Int) := by
  have hsz : (fcolsA d).size = 64 := by unfold fcolsA; rw [size_steps]; exact hd
  have hY : ∀ m, m < 8 → (-268435456 : Int) ≤ (fcolsA d)[rowAt j m]! ∧ (fcolsA d)[rowAt j m]! ≤ (267386880 : Int) := by
    intro m hm
    show (-268435456 : Int) ≤ (fcolsA d)[8 * j + m]! ∧ (fcolsA d)[8 * j + m]! ≤ (267386880 : Int)
    rw [fcols_get d hd j m hj hm, line_is]
    have h := fc_says (fun n => d[colAt m n]!) (fun n hn => hb _ (by unfold colAt; omega)) j hj
    have hr := fc_range j hj
    have h1 := h.lo
    have h2 := h.hi
    omega
  rw [frows_get _ hsz j l hj hl, line_is]
  have h := fr_says _ hY l hl
  have hr := fr_range l hl
  have h1 := h.lo
  have h2 := h.hi
  omega

theorem inverse_law (d q : Array Int) (hd : d.size = 64) (hb : ∀ k, k < 64 → (0 : Int) ≤ d[k]! ∧ d[k]! ≤ (255 : Int)) (hqs : q.size = 64)
    (hq : ∀ k, k < 64 → (-4 : Int) ≤ 8 * q[k]! - (frowsA (fcolsA d))[k]! ∧ 8 * q[k]! - (frowsA (fcolsA d))[k]! ≤ (4 : Int)) (k : Nat) (hk : k < 64) :
    (-5 : Int) ≤ (icolsA (irowsA q))[k]! + 128 - d[k]! ∧ (icolsA (irowsA q))[k]! + 128 - d[k]! ≤ (5 : Int) := by
  have hsz : (fcolsA d).size = 64 := by unfold fcolsA; rw [size_steps]; exact hd
  have hisz : (irowsA q).size = 64 := by unfold irowsA; rw [size_steps]; exact hqs
  have hYs : ∀ j, j < 8 → ∀ m, m < 8 → RowSays fcK (fcRows.getD j ⟨[], 0, 0, 0, 0⟩) (fun n => d[8 * n + m]!) ((fcolsA d)[8 * j + m]!) := by
    intro j hj m hm
    rw [fcols_get d hd j m hj hm, line_is]
    exact fc_says (fun n => d[8 * n + m]!) (fun n hn => hb _ (by omega)) j hj
  have hYb : ∀ j, j < 8 → ∀ m, m < 8 → (-268435456 : Int) ≤ (fcolsA d)[8 * j + m]! ∧ (fcolsA d)[8 * j + m]! ≤ (267386880 : Int) := by
    intro j hj m hm
    have h := hYs j hj m hm
    have hr := fc_range j hj
    have h1 := h.lo
    have h2 := h.hi
    omega
  have hW : ∀ j, j < 8 → ∀ v, v < 8 → (∃ e, trK * (irowsA q)[8 * j + v]! = S (fun m => qm v m * (fcolsA d)[8 * j + m]!) + e ∧ erLo.getD v 0 ≤ e ∧ e ≤ erHi.getD v 0) ∧ (-134814314 : Int) ≤ (irowsA q)[8 * j + v]! ∧ (irowsA q)[8 * j + v]! ≤ (134287978 : Int) := by
    intro j hj v hv
    refine rows_comp (fun m => (fcolsA d)[8 * j + m]!) (fun l => (frowsA (fcolsA d))[8 * j + l]!) (fun l => q[8 * j + l]!) (fun v => (irowsA q)[8 * j + v]!) (hYb j hj) ?_ ?_ ?_ v hv
    · intro l hl
      rw [frows_get _ hsz j l hj hl, line_is]
      exact fr_says _ (hYb j hj) l hl
    · intro l hl
      exact hq (8 * j + l) (by omega)
    · intro v hv
      rw [irows_get q hqs j v hj hv, line_is]
      refine ir_says _ ?_ v hv
      intro l hl
      have h1 := forward_bounds d hd hb j l hj hl
      have h2 := hq (8 * j + l) (by omega)
      show (-1025 : Int) ≤ q[8 * j + l]! ∧ q[8 * j + l]! ≤ (1025 : Int)
      omega
  have e : k = 8 * (k / 8) + k % 8 := by omega
  have hu : k / 8 < 8 := by omega
  have hv : k % 8 < 8 := by omega
  generalize k / 8 = u at *
  generalize k % 8 = v at *
  subst e
  rw [icols_get _ hisz u v hu hv, line_is]
  exact cols_comp (fun n m => d[8 * n + m]!) (fun j m => (fcolsA d)[8 * j + m]!) (fun j v => (irowsA q)[8 * j + v]!) (fun n hn m hm => hb _ (by omega)) hYs u v hu hv (fun j hj => (hW j hj v hv).1) _
    (ic_says (fun j => (irowsA q)[8 * j + v]!) (fun j hj => (hW j hj v hv).2) u hu)

end Go.Proofs.YtlibflbpajeeeaaDoor
