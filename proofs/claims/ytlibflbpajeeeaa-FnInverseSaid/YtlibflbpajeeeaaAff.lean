/- Plain: linear forms with intervals over the instruction lists of Pl: a checker, and that it is sound: no wrap, and each output is its linear form but for an error within stated bounds. No program in sight. -/
import Derived.Test.YtlibflbpajeeeaaPl
namespace Go.Proofs.Ytlibflbpajeeeaa
open Go.RowKit

def dot : List Int → List Int → Int
  | a :: as, b :: bs => a * b + dot as bs
  | _, _ => 0
def addL : List Int → List Int → List Int
  | [], bs => bs
  | as, [] => as
  | a :: as, b :: bs => (a + b) :: addL as bs
def smulL (c : Int) (a : List Int) : List Int := a.map (c * ·)
def unitL (n : Nat) (c : Int) : List Int := List.replicate n 0 ++ [c]

theorem dot_nil_right (a : List Int) : dot a [] = 0 := by cases a <;> rfl
theorem dot_nil_left (v : List Int) : dot [] v = 0 := rfl
theorem dot_addL : ∀ (v a b : List Int), dot (addL a b) v = dot a v + dot b v := by
  intro v
  induction v with
  | nil => intro a b; simp [dot_nil_right]
  | cons x xs ih =>
    intro a b
    cases a with
    | nil => simp [addL, dot]
    | cons p ps =>
      cases b with
      | nil => simp [addL, dot]
      | cons r rs => simp only [addL, dot, ih]; rw [Int.add_mul]; omega
theorem dot_smulL (c : Int) : ∀ (v a : List Int), dot (smulL c a) v = c * dot a v := by
  intro v
  induction v with
  | nil => intro a; simp [dot_nil_right]
  | cons x xs ih =>
    intro a
    cases a with
    | nil => simp [smulL, dot]
    | cons p ps =>
      have h := ih ps
      simp only [smulL, List.map_cons, dot] at h ⊢
      rw [h, Int.mul_add, Int.mul_assoc]
theorem dot_append : ∀ (a v r : List Int), a.length ≤ v.length → dot a (v ++ r) = dot a v := by
  intro a
  induction a with
  | nil => intro v r _; rfl
  | cons p ps ih =>
    intro v r h
    cases v with
    | nil => simp at h
    | cons x xs => simp only [List.cons_append, dot]; rw [ih xs r (by simpa using h)]
theorem dot_unitL (c : Int) : ∀ (n : Nat) (v : List Int), dot (unitL n c) v = c * v.getD n 0 := by
  intro n
  induction n with
  | zero =>
    intro v
    cases v with
    | nil => simp [unitL, dot]
    | cons x xs => simp [unitL, dot]
  | succ n ih =>
    intro v
    cases v with
    | nil => simp [dot_nil_right]
    | cons x xs =>
      have h := ih xs
      simp only [unitL, List.replicate_succ, List.cons_append, dot] at h ⊢
      rw [h]
      simp
theorem dot_split : ∀ (x a u : List Int), dot a (x ++ u) = dot (a.take x.length) x + dot (a.drop x.length) u := by
  intro x
  induction x with
  | nil => intro a u; simp [dot]
  | cons y ys ih =>
    intro a u
    cases a with
    | nil => simp [dot]
    | cons p ps => simp only [List.cons_append, dot, List.length_cons, List.take_succ_cons, List.drop_succ_cons, ih]; omega
theorem length_addL : ∀ (a b : List Int) (n : Nat), a.length ≤ n → b.length ≤ n → (addL a b).length ≤ n := by
  intro a
  induction a with
  | nil => intro b n _ h; exact h
  | cons p ps ih =>
    intro b n h1 h2
    cases b with
    | nil => exact h1
    | cons r rs =>
      cases n with
      | zero => simp at h1
      | succ n => simp only [addL, List.length_cons] at *; have := ih rs n (by omega) (by omega); omega

def InBox : List Int → List (Int × Int) → Prop
  | x :: xs, (l, h) :: bs => (l ≤ x ∧ x ≤ h) ∧ InBox xs bs
  | [], [] => True
  | _, _ => False
def loD : List Int → List (Int × Int) → Int
  | a :: as, (l, h) :: bs => (if 0 ≤ a then a * l else a * h) + loD as bs
  | _, _ => 0
def hiD : List Int → List (Int × Int) → Int
  | a :: as, (l, h) :: bs => (if 0 ≤ a then a * h else a * l) + hiD as bs
  | _, _ => 0

theorem InBox.length : ∀ {v : List Int} {b : List (Int × Int)}, InBox v b → v.length = b.length := by
  intro v
  induction v with
  | nil => intro b h; cases b with
    | nil => rfl
    | cons p ps => exact h.elim
  | cons x xs ih => intro b h; cases b with
    | nil => exact h.elim
    | cons p ps => simp only [List.length_cons]; rw [ih h.2]
theorem InBox.snoc : ∀ {v : List Int} {b : List (Int × Int)} (r l h : Int), InBox v b → l ≤ r → r ≤ h → InBox (v ++ [r]) (b ++ [(l, h)]) := by
  intro v
  induction v with
  | nil => intro b r l h hb h1 h2; cases b with
    | nil => exact ⟨⟨h1, h2⟩, trivial⟩
    | cons p ps => exact hb.elim
  | cons x xs ih => intro b r l h hb h1 h2; cases b with
    | nil => exact hb.elim
    | cons p ps => exact ⟨hb.1, ih r l h hb.2 h1 h2⟩
theorem InBox.drop : ∀ {x : List Int} {u : List Int} {b : List (Int × Int)}, InBox (x ++ u) b → InBox u (b.drop x.length) := by
  intro x
  induction x with
  | nil => intro u b h; exact h
  | cons y ys ih => intro u b h; cases b with
    | nil => exact h.elim
    | cons p ps => exact ih h.2

theorem mul_lo (a x l h : Int) (h1 : l ≤ x) (h2 : x ≤ h) : (if 0 ≤ a then a * l else a * h) ≤ a * x := by
  by_cases ha : 0 ≤ a
  · rw [if_pos ha]; exact Int.mul_le_mul_of_nonneg_left h1 ha
  · rw [if_neg ha]; exact Int.mul_le_mul_of_nonpos_left (by omega) h2
theorem mul_hi (a x l h : Int) (h1 : l ≤ x) (h2 : x ≤ h) : a * x ≤ (if 0 ≤ a then a * h else a * l) := by
  by_cases ha : 0 ≤ a
  · rw [if_pos ha]; exact Int.mul_le_mul_of_nonneg_left h2 ha
  · rw [if_neg ha]; exact Int.mul_le_mul_of_nonpos_left (by omega) h1

theorem loD_le : ∀ (a v : List Int) (b : List (Int × Int)), InBox v b → loD a b ≤ dot a v := by
  intro a
  induction a with
  | nil => intro v b _; simp [loD, dot]
  | cons p ps ih => intro v b h; cases v with
    | nil => cases b with
      | nil => simp [loD, dot]
      | cons r rs => exact h.elim
    | cons x xs => cases b with
      | nil => exact h.elim
      | cons r rs =>
        have := mul_lo p x r.1 r.2 h.1.1 h.1.2
        have := ih xs rs h.2
        simp only [loD, dot]
        omega
theorem le_hiD : ∀ (a v : List Int) (b : List (Int × Int)), InBox v b → dot a v ≤ hiD a b := by
  intro a
  induction a with
  | nil => intro v b _; simp [hiD, dot]
  | cons p ps ih => intro v b h; cases v with
    | nil => cases b with
      | nil => simp [hiD, dot]
      | cons r rs => exact h.elim
    | cons x xs => cases b with
      | nil => exact h.elim
      | cons r rs =>
        have := mul_hi p x r.1 r.2 h.1.1 h.1.2
        have := ih xs rs h.2
        simp only [hiD, dot]
        omega

/-- q times a number is a linear form of the variables. -/
structure Form where
  q : Int
  co : List Int
  k : Int

structure FormOk (f : Form) (v : List Int) (x : Int) : Prop where
  pos : 0 < f.q
  len : f.co.length ≤ v.length
  eq : f.q * x = dot f.co v + f.k

def addF (s : Int) (f g : Form) : Option Form :=
  let m1 := if f.q < g.q then g.q / f.q else 1
  let m2 := if g.q < f.q then f.q / g.q else 1
  if 0 < m1 ∧ 0 < m2 ∧ m1 * f.q = m2 * g.q then some ⟨m1 * f.q, addL (smulL m1 f.co) (smulL (s * m2) g.co), m1 * f.k + s * m2 * g.k⟩ else none

theorem addF_ok {s : Int} {f g r : Form} {v : List Int} {x y : Int} (h : addF s f g = some r) (hf : FormOk f v x) (hg : FormOk g v y) : FormOk r v (x + s * y) := by
  unfold addF at h
  simp only at h
  generalize (if f.q < g.q then g.q / f.q else 1) = m1 at h
  generalize (if g.q < f.q then f.q / g.q else 1) = m2 at h
  split at h
  · rename_i hc
    obtain ⟨h1, h2, h3⟩ := hc
    injection h with h
    subst h
    refine ⟨Int.mul_pos h1 hf.pos, length_addL _ _ _ (by simpa [smulL] using hf.len) (by simpa [smulL] using hg.len), ?_⟩
    simp only
    rw [dot_addL, dot_smulL, dot_smulL, Int.mul_add, Int.mul_assoc m1 f.q x, hf.eq]
    have e : m1 * f.q * (s * y) = s * m2 * (g.q * y) := by
      rw [h3, Int.mul_comm s m2, Int.mul_assoc m2 g.q (s * y), Int.mul_assoc m2 s (g.q * y), ← Int.mul_assoc g.q s y, Int.mul_comm g.q s, Int.mul_assoc s g.q y]
    rw [e, hg.eq, Int.mul_add, Int.mul_add]
    omega
  · cases h

def mulF (c : Int) (f : Form) : Form := ⟨f.q, smulL c f.co, c * f.k⟩
theorem mulF_ok {c : Int} {f : Form} {v : List Int} {x : Int} (hf : FormOk f v x) : FormOk (mulF c f) v (c * x) := by
  refine ⟨hf.pos, by simpa [mulF, smulL] using hf.len, ?_⟩
  simp only [mulF]
  rw [dot_smulL, ← Int.mul_assoc, Int.mul_comm f.q c, Int.mul_assoc, hf.eq, Int.mul_add]
def shiftF (c : Int) (f : Form) : Form := ⟨f.q, f.co, f.k + c * f.q⟩
theorem shiftF_ok {c : Int} {f : Form} {v : List Int} {x : Int} (hf : FormOk f v x) : FormOk (shiftF c f) v (x + c) := by
  refine ⟨hf.pos, hf.len, ?_⟩
  simp only [shiftF]
  rw [Int.mul_add, hf.eq, Int.mul_comm f.q c]
  omega

def fits32 (f : Form) (b : List (Int × Int)) : Bool := decide (-2147483648 * f.q ≤ loD f.co b + f.k) && decide (hiD f.co b + f.k ≤ 2147483647 * f.q)
theorem fits32_ok {f : Form} {b : List (Int × Int)} {v : List Int} {x : Int} (h : fits32 f b = true) (hb : InBox v b) (hf : FormOk f v x) : wrap32 x = x := by
  unfold fits32 at h
  rw [Bool.and_eq_true, decide_eq_true_eq, decide_eq_true_eq] at h
  have h1 := loD_le f.co v b hb
  have h2 := le_hiD f.co v b hb
  have h3 := hf.eq
  have a1 : f.q * -2147483648 ≤ f.q * x := by rw [Int.mul_comm]; omega
  have a2 : f.q * x ≤ f.q * 2147483647 := by rw [Int.mul_comm f.q 2147483647]; omega
  have b1 := Int.le_of_mul_le_mul_left a1 hf.pos
  have b2 := Int.le_of_mul_le_mul_left a2 hf.pos
  unfold wrap32
  omega

abbrev AffSt := List (Int × Int) × List Form
def getF (l : List Form) (i : Nat) : Form := l.getD i ⟨1, [], 0⟩
def keepF (st : AffSt) (f : Form) : Option AffSt := if fits32 f st.1 then some (st.1, st.2 ++ [f]) else none
def stepF (st : AffSt) : Ins → Option AffSt
  | .add i j => (addF 1 (getF st.2 i) (getF st.2 j)).bind (keepF st)
  | .sub i j => (addF (-1) (getF st.2 i) (getF st.2 j)).bind (keepF st)
  | .mulL c i => keepF st (mulF c (getF st.2 i))
  | .mulR i c => keepF st (mulF c (getF st.2 i))
  | .addc i c => keepF st (shiftF c (getF st.2 i))
  | .subc i c => keepF st (shiftF (-c) (getF st.2 i))
  | .shr i d => if 0 < d then some (st.1 ++ [(0, d - 1)], st.2 ++ [⟨(getF st.2 i).q * d, addL (getF st.2 i).co (unitL st.1.length (-(getF st.2 i).q)), (getF st.2 i).k⟩]) else none
def runF : List Ins → AffSt → Option AffSt
  | [], st => some st
  | i :: p, st => (stepF st i).bind (runF p)

structure AffInv (st : AffSt) (r v : List Int) : Prop where
  box : InBox v st.1
  len : st.2.length = r.length
  ok : ∀ i, FormOk (getF st.2 i) v (r.getD i 0)

theorem getD_snoc {α : Type} (l : List α) (a d : α) (i : Nat) : (l ++ [a]).getD i d = if i < l.length then l.getD i d else if i = l.length then a else d := by
  rw [List.getD_eq_getElem?_getD, List.getD_eq_getElem?_getD]
  by_cases h : i < l.length
  · rw [if_pos h, List.getElem?_append_left h]
  · rw [if_neg h, List.getElem?_append_right (by omega)]
    by_cases e : i = l.length
    · subst e; simp
    · rw [if_neg e, List.getElem?_eq_none (by simp; omega)]; rfl

theorem FormOk.longer {f : Form} {v u : List Int} {x : Int} (h : FormOk f v x) : FormOk f (v ++ u) x :=
  ⟨h.pos, by simp; have := h.len; omega, by rw [dot_append _ _ _ h.len]; exact h.eq⟩

theorem AffInv.push {st : AffSt} {r v : List Int} {u : List Int} {b : List (Int × Int)} {f : Form} {x : Int} (h : AffInv st r v) (hb : InBox (v ++ u) b) (hf : FormOk f (v ++ u) x) : AffInv (b, st.2 ++ [f]) (r ++ [x]) (v ++ u) := by
  refine ⟨hb, by simp [h.len], fun i => ?_⟩
  unfold getF
  rw [getD_snoc, getD_snoc, h.len]
  by_cases h1 : i < r.length
  · rw [if_pos h1, if_pos h1]; exact (h.ok i).longer
  · rw [if_neg h1, if_neg h1]
    by_cases h2 : i = r.length
    · rw [if_pos h2, if_pos h2]; exact hf
    · rw [if_neg h2, if_neg h2]; exact ⟨by decide, by simp, by simp [dot]⟩

theorem keepF_ok {st st' : AffSt} {r v : List Int} {f : Form} {x : Int} (hk : keepF st f = some st') (h : AffInv st r v) (hf : FormOk f v x) : AffInv st' (r ++ [wrap32 x]) (v ++ []) := by
  unfold keepF at hk
  split at hk
  · rename_i hfit
    injection hk with hk
    subst hk
    rw [fits32_ok hfit h.box hf]
    exact h.push (by simpa using h.box) (by simpa using hf)
  · cases hk

theorem stepF_ok {st st' : AffSt} {r v : List Int} (i : Ins) (hs : stepF st i = some st') (h : AffInv st r v) : ∃ u, AffInv st' (r ++ [i.val wrap32 r]) (v ++ u) := by
  cases i with
  | add i j =>
    simp only [stepF, Option.bind_eq_some_iff] at hs
    obtain ⟨f, hf, hk⟩ := hs
    have := addF_ok hf (h.ok i) (h.ok j)
    rw [Int.one_mul] at this
    exact ⟨[], keepF_ok hk h this⟩
  | sub i j =>
    simp only [stepF, Option.bind_eq_some_iff] at hs
    obtain ⟨f, hf, hk⟩ := hs
    have := addF_ok hf (h.ok i) (h.ok j)
    rw [show r.getD i 0 + -1 * r.getD j 0 = r.getD i 0 - r.getD j 0 by omega] at this
    exact ⟨[], keepF_ok hk h this⟩
  | mulL c i => exact ⟨[], keepF_ok hs h (mulF_ok (h.ok i))⟩
  | mulR i c =>
    have := keepF_ok hs h (mulF_ok (h.ok i))
    rw [Int.mul_comm] at this
    exact ⟨[], this⟩
  | addc i c => exact ⟨[], keepF_ok hs h (shiftF_ok (h.ok i))⟩
  | subc i c => exact ⟨[], keepF_ok hs h (shiftF_ok (h.ok i))⟩
  | shr i d =>
    simp only [stepF] at hs
    split at hs
    · rename_i hd
      injection hs with hs
      subst hs
      refine ⟨[r.getD i 0 % d], ?_⟩
      have hr0 := Int.emod_nonneg (r.getD i 0) (show d ≠ 0 by omega)
      have hr1 := Int.emod_lt_of_pos (r.getD i 0) hd
      have hi := h.ok i
      refine h.push (h.box.snoc _ _ _ hr0 (by omega)) ⟨Int.mul_pos hi.pos hd, ?_, ?_⟩
      · refine length_addL _ _ _ (by have := hi.len; simp; omega) ?_
        simp [unitL, ← h.box.length]
      · simp only [Ins.val]
        rw [dot_addL, dot_append _ _ _ hi.len, dot_unitL, ← h.box.length]
        have e1 : (v ++ [r.getD i 0 % d]).getD v.length 0 = r.getD i 0 % d := by rw [getD_snoc]; simp
        rw [e1, Int.mul_assoc, Int.mul_comm d]
        have e2 : r.getD i 0 / d * d = r.getD i 0 - r.getD i 0 % d := by have := Int.emod_add_mul_ediv (r.getD i 0) d; rw [Int.mul_comm d] at this; omega
        rw [e2, Int.mul_sub, hi.eq, Int.neg_mul]
        omega
    · cases hs

theorem runF_ok : ∀ (p : List Ins) (st st' : AffSt) (r v : List Int), runF p st = some st' → AffInv st r v → ∃ u, AffInv st' (evalIns wrap32 p r) (v ++ u) := by
  intro p
  induction p with
  | nil =>
    intro st st' r v hs h
    injection hs with hs
    subst hs
    exact ⟨[], by rw [List.append_nil]; exact h⟩
  | cons i p ih =>
    intro st st' r v hs h
    simp only [runF, Option.bind_eq_some_iff] at hs
    obtain ⟨st1, h1, h2⟩ := hs
    obtain ⟨u1, hu1⟩ := stepF_ok i h1 h
    obtain ⟨u2, hu2⟩ := ih st1 st' _ _ h2 hu1
    exact ⟨u1 ++ u2, by rw [← List.append_assoc]; exact hu2⟩

/-! ### A line of eight -/
def S (f : Nat → Int) : Int := f 0 + f 1 + f 2 + f 3 + f 4 + f 5 + f 6 + f 7
def line8 (x : Nat → Int) : List Int := [x 0, x 1, x 2, x 3, x 4, x 5, x 6, x 7]

theorem dot_head (a : List Int) (x : Int) (xs : List Int) : dot a (x :: xs) = a.headD 0 * x + dot a.tail xs := by
  cases a with
  | nil => simp [dot]
  | cons p ps => rfl
def norm8 (a : List Int) : List Int := [a.headD 0, a.tail.headD 0, a.tail.tail.headD 0, a.tail.tail.tail.headD 0, a.tail.tail.tail.tail.headD 0, a.tail.tail.tail.tail.tail.headD 0, a.tail.tail.tail.tail.tail.tail.headD 0, a.tail.tail.tail.tail.tail.tail.tail.headD 0]
theorem dot_line8 (a : List Int) (x : Nat → Int) : dot a (line8 x) = S (fun j => (norm8 a).getD j 0 * x j) := by
  unfold line8
  rw [dot_head, dot_head, dot_head, dot_head, dot_head, dot_head, dot_head, dot_head, dot_nil_right]
  simp [S, norm8]
  omega

/-- What is told of an output: K times it is the linear form co of the eight inputs, and an error from elo to ehi; it lies from ylo to yhi. -/
structure LinRow where
  co : List Int
  elo : Int
  ehi : Int
  ylo : Int
  yhi : Int

def st0 (l h : Int) : AffSt := (List.replicate 8 (l, h), [⟨1, unitL 0 1, 0⟩, ⟨1, unitL 1 1, 0⟩, ⟨1, unitL 2 1, 0⟩, ⟨1, unitL 3 1, 0⟩, ⟨1, unitL 4 1, 0⟩, ⟨1, unitL 5 1, 0⟩, ⟨1, unitL 6 1, 0⟩, ⟨1, unitL 7 1, 0⟩])

theorem st0_inv (l h : Int) (x : Nat → Int) (hx : ∀ j, j < 8 → l ≤ x j ∧ x j ≤ h) : AffInv (st0 l h) (line8 x) (line8 x) := by
  refine ⟨?_, rfl, ?_⟩
  · exact ⟨hx 0 (by omega), hx 1 (by omega), hx 2 (by omega), hx 3 (by omega), hx 4 (by omega), hx 5 (by omega), hx 6 (by omega), hx 7 (by omega), trivial⟩
  · intro i
    by_cases hi : i < 8
    · have key : ∀ n, n < 8 → FormOk ⟨1, unitL n 1, 0⟩ (line8 x) ((line8 x).getD n 0) := fun n hn =>
        ⟨by show (0 : Int) < 1; decide, by simp [unitL, line8]; omega, by rw [dot_unitL]; show (1 : Int) * _ = 1 * _ + 0; omega⟩
      match i, hi with
      | 0, _ => exact key 0 (by omega)
      | 1, _ => exact key 1 (by omega)
      | 2, _ => exact key 2 (by omega)
      | 3, _ => exact key 3 (by omega)
      | 4, _ => exact key 4 (by omega)
      | 5, _ => exact key 5 (by omega)
      | 6, _ => exact key 6 (by omega)
      | 7, _ => exact key 7 (by omega)
    · have e1 : getF (st0 l h).2 i = ⟨1, [], 0⟩ := by
        unfold getF st0
        rw [List.getD_eq_getElem?_getD, List.getElem?_eq_none (by simp; omega)]; rfl
      have e2 : (line8 x).getD i 0 = 0 := by rw [List.getD_eq_getElem?_getD, List.getElem?_eq_none (by simp [line8]; omega)]; rfl
      rw [e1, e2]
      exact ⟨by decide, by simp, by simp [dot]⟩

def rowOk (K : Int) (st : AffSt) (o : Nat) (row : LinRow) : Bool :=
  let f := getF st.2 o
  let m := K / f.q
  decide (0 < m) && decide (m * f.q = K) && decide (row.co = norm8 (smulL m (f.co.take 8))) && decide (row.elo ≤ m * (loD (f.co.drop 8) (st.1.drop 8) + f.k)) && decide (m * (hiD (f.co.drop 8) (st.1.drop 8) + f.k) ≤ row.ehi) &&
    decide ((row.ylo - 1) * f.q < loD f.co st.1 + f.k) && decide (hiD f.co st.1 + f.k < (row.yhi + 1) * f.q)

def rowsOk (K : Int) (st : AffSt) : List Nat → List LinRow → Bool
  | o :: os, r :: rs => rowOk K st o r && rowsOk K st os rs
  | [], [] => true
  | _, _ => false

def stageOk (K l h : Int) (p : List Ins) (outs : List Nat) (rows : List LinRow) : Bool :=
  match runF p (st0 l h) with
  | some st => rowsOk K st outs rows
  | none => false

structure RowSays (K : Int) (row : LinRow) (x : Nat → Int) (y : Int) : Prop where
  lin : ∃ e, K * y = S (fun j => row.co.getD j 0 * x j) + e ∧ row.elo ≤ e ∧ e ≤ row.ehi
  lo : row.ylo ≤ y
  hi : y ≤ row.yhi

theorem rowOk_says {K : Int} {st : AffSt} {o : Nat} {row : LinRow} {r u : List Int} {x : Nat → Int} (h : rowOk K st o row = true) (hi : AffInv st r (line8 x ++ u)) : RowSays K row x (r.getD o 0) := by
  unfold rowOk at h
  simp only [Bool.and_eq_true, decide_eq_true_eq] at h
  obtain ⟨⟨⟨⟨⟨⟨h1, h2⟩, h3⟩, h4⟩, h5⟩, h6⟩, h7⟩ := h
  have hf := hi.ok o
  generalize getF st.2 o = f at *
  generalize r.getD o 0 = y at *
  have hsp := dot_split (line8 x) f.co u
  have hl8 : (line8 x).length = 8 := rfl
  rw [hl8] at hsp
  have hub : InBox u (st.1.drop 8) := InBox.drop (x := line8 x) hi.box
  have b1 := loD_le (f.co.drop 8) u _ hub
  have b2 := le_hiD (f.co.drop 8) u _ hub
  have c1 := loD_le f.co _ _ hi.box
  have c2 := le_hiD f.co _ _ hi.box
  have hq := hf.eq
  generalize K / f.q = m at *
  refine ⟨⟨m * (dot (f.co.drop 8) u + f.k), ?_, ?_, ?_⟩, ?_, ?_⟩
  · rw [h3, ← dot_line8, dot_smulL, ← h2, Int.mul_assoc, hq, hsp, ← Int.mul_add]
    congr 1
    omega
  · exact Int.le_trans h4 (Int.mul_le_mul_of_nonneg_left (by omega) (by omega))
  · exact Int.le_trans (Int.mul_le_mul_of_nonneg_left (by omega) (by omega)) h5
  · have hlt : f.q * (row.ylo - 1) < f.q * y := by rw [Int.mul_comm]; omega
    have := Int.lt_of_mul_lt_mul_left hlt (by have := hf.pos; omega)
    omega
  · have hlt : f.q * y < f.q * (row.yhi + 1) := by rw [Int.mul_comm f.q (row.yhi + 1)]; omega
    have := Int.lt_of_mul_lt_mul_left hlt (by have := hf.pos; omega)
    omega

theorem rowsOk_says {K : Int} {st : AffSt} {r u : List Int} {x : Nat → Int} (hi : AffInv st r (line8 x ++ u)) : ∀ (outs : List Nat) (rows : List LinRow), rowsOk K st outs rows = true →
    ∀ c, c < rows.length → RowSays K (rows.getD c ⟨[], 0, 0, 0, 0⟩) x ((outs.map fun j => r.getD j 0).getD c 0) := by
  intro outs
  induction outs with
  | nil => intro rows h c hc; cases rows with
    | nil => simp at hc
    | cons a b => simp [rowsOk] at h
  | cons o os ih => intro rows h c hc; cases rows with
    | nil => simp at hc
    | cons a b =>
      simp only [rowsOk, Bool.and_eq_true] at h
      cases c with
      | zero =>
        rw [List.getD_cons_zero, List.map_cons, List.getD_cons_zero]
        exact rowOk_says h.1 hi
      | succ c =>
        rw [List.getD_cons_succ, List.map_cons, List.getD_cons_succ]
        exact ih b h.2 c (by simpa using hc)

/-- THE CHECKER IS SOUND. -/
theorem stageOk_says {K l h : Int} {p : List Ins} {outs : List Nat} {rows : List LinRow} (hok : stageOk K l h p outs rows = true) (x : Nat → Int) (hx : ∀ j, j < 8 → l ≤ x j ∧ x j ≤ h) (c : Nat) (hc : c < rows.length) :
    RowSays K (rows.getD c ⟨[], 0, 0, 0, 0⟩) x ((outsOf wrap32 p outs (line8 x)).getD c 0) := by
  unfold stageOk at hok
  split at hok
  · rename_i st hst
    obtain ⟨u, hu⟩ := runF_ok p _ _ _ _ hst (st0_inv l h x hx)
    exact rowsOk_says hu outs rows hok c hc
  · cases hok

end Go.Proofs.Ytlibflbpajeeeaa
