/- The reference's codes in memory: how many of each length, the signs, each sign's code and width; what the loops of standard hold. -/
import Derived.Test.YtlibflbpajeeeaaDoorJEmit
import Derived.Test.YtlibflbpajeeeaaDoorJArr
import Derived.Test.YtlibflbpajeeeaaDoorJDiv
namespace Go.Proofs.YtlibflbpajeeeaaDoor
open Go.RowKit

def cntF (t n j : Nat) : Int := if 1 ≤ j ∧ j ≤ n then (cntN t (j - 1) : Int) else 0
def cdF (t k s : Nat) : Int := if inSg t k s = true then codeOf t s else 0
def wdF (t k s : Nat) : Int := if inSg t k s = true then (wideOf t s : Int) else 0
theorem cntF_succ (t n : Nat) : upd (cntF t n) (n + 1) (cntN t n) = cntF t (n + 1) := by
  funext j
  unfold upd cntF
  by_cases e : j = n + 1
  · subst e; rw [if_pos rfl, if_pos (by omega), Nat.add_sub_cancel]
  · rw [if_neg e]
    by_cases h : 1 ≤ j ∧ j ≤ n
    · rw [if_pos h, if_pos (by omega)]
    · rw [if_neg h, if_neg (by omega)]
theorem codeUp (t k : Nat) (ht : t < 4) (hk : k < (sgL t).length) (f : Nat → Int) : upd (fun s => if inSg t k s = true then f s else 0) (sgN t k) (f (sgN t k)) = fun s => if inSg t (k + 1) s = true then f s else 0 := by
  funext s
  show (if s = sgN t k then f (sgN t k) else (if inSg t k s = true then f s else 0)) = if inSg t (k + 1) s = true then f s else 0
  rw [inSg_succ t k s ht hk]
  by_cases e : s = sgN t k
  · subst e; rw [if_pos rfl, if_pos (by simp)]
  · rw [if_neg e]
    by_cases h : inSg t k s = true
    · rw [if_pos h, if_pos (by simp [h])]
    · rw [if_neg h, if_neg (by simp [h, e])]
theorem cdF_succ (t k : Nat) (ht : t < 4) (hk : k < (sgL t).length) : upd (cdF t k) (sgN t k) (codeOf t (sgN t k)) = cdF t (k + 1) := codeUp t k ht hk (codeOf t)
theorem wdF_succ (t k : Nat) (ht : t < 4) (hk : k < (sgL t).length) : upd (wdF t k) (sgN t k) (wideOf t (sgN t k) : Int) = wdF t (k + 1) := codeUp t k ht hk (fun s => (wideOf t s : Int))
theorem cdF_zero (t s : Nat) : cdF t 0 s = 0 := rfl
theorem wdF_zero (t s : Nat) : wdF t 0 s = 0 := rfl
theorem cdF_all (t s : Nat) (ht : t < 4) (hs : s < 256) : cdF t (sgL t).length s = codeOf t s ∧ wdF t (sgL t).length s = wideOf t s := by
  unfold cdF wdF
  by_cases h : inSg t (sgL t).length s = true
  · rw [if_pos h, if_pos h]; exact ⟨rfl, rfl⟩
  · have := sg_all t ht s hs (by simpa using h)
    rw [if_neg h, if_neg h, this.1, this.2.1]
    exact ⟨rfl, rfl⟩

/-- The codes at block C. -/
structure CodesAt (w : World) (C : Nat) (v : Value) (cnt code wide : Nat → Int) : Prop where
  cnt : ∀ j, j < 17 → w.cell? ⟨C, j, none⟩ = some (.int .i64 (cnt j))
  sg : w.cell? ⟨C, 17, none⟩ = some v
  cd : ∀ s, s < 256 → w.cell? ⟨C, 18 + s, none⟩ = some (.int .i64 (code s))
  wd : ∀ s, s < 256 → w.cell? ⟨C, 274 + s, none⟩ = some (.int .i64 (wide s))
  fr : ∀ j, j < 530 → w.frozen? ⟨C, j, none⟩ = false
theorem CodesAt.lt {w : World} {C : Nat} {v : Value} {cnt code wide : Nat → Int} (h : CodesAt w C v cnt code wide) : C < w.heap.size := World.block_lt_of_cell? w _ h.sg
theorem CodesAt.same {w w' : World} {C : Nat} {v : Value} {cnt code wide : Nat → Int} (h : CodesAt w C v cnt code wide) (hb : w'.heap[C]? = w.heap[C]?) : CodesAt w' C v cnt code wide :=
  ⟨fun j hj => (World.cell?_of_block (a := ⟨C, j, none⟩) hb).trans (h.cnt j hj), (World.cell?_of_block (a := ⟨C, 17, none⟩) hb).trans h.sg, fun s hs => (World.cell?_of_block (a := ⟨C, 18 + s, none⟩) hb).trans (h.cd s hs),
    fun s hs => (World.cell?_of_block (a := ⟨C, 274 + s, none⟩) hb).trans (h.wd s hs), fun j hj => (World.frozen?_of_block (a := ⟨C, j, none⟩) hb).trans (h.fr j hj)⟩
theorem cell_upd {w : World} {C o n : Nat} {f : Nat → Int} (h : ∀ s, s < n → w.cell? ⟨C, o + s, none⟩ = some (.int .i64 (f s))) (j : Nat) (hj : j < n) (x : Int) : ∀ s, s < n → (w.setCell ⟨C, o + j, none⟩ (.int .i64 x)).cell? ⟨C, o + s, none⟩ = some (.int .i64 (upd f j x s)) := by
  intro s hs
  unfold upd
  by_cases e : s = j
  · subst e; rw [if_pos rfl]; exact World.cell?_setCell_same _ _ _ (h s hs)
  · rw [if_neg e, World.cell?_setCell_other _ _ _ _ (by intro e'; injection e'; omega)]; exact h s hs
theorem cell_keep {w : World} {C i j : Nat} {v x : Value} (h : w.cell? ⟨C, i, none⟩ = some v) (hij : i ≠ j) : (w.setCell ⟨C, j, none⟩ x).cell? ⟨C, i, none⟩ = some v := by
  rw [World.cell?_setCell_other _ _ _ _ (by intro e'; injection e'; omega)]; exact h
theorem CodesAt.setCnt {w : World} {C : Nat} {v : Value} {cnt code wide : Nat → Int} (h : CodesAt w C v cnt code wide) (j : Nat) (hj : j < 17) (x : Int) : CodesAt (w.setCell ⟨C, j, none⟩ (.int .i64 x)) C v (upd cnt j x) code wide := by
  refine ⟨fun s hs => ?_, cell_keep h.sg (by omega), fun s hs => cell_keep (h.cd s hs) (by omega), fun s hs => cell_keep (h.wd s hs) (by omega), fun i hi => by rw [World.frozen?_setCell]; exact h.fr i hi⟩
  have := cell_upd (o := 0) (C := C) (f := cnt) (n := 17) (w := w) (fun s hs => by rw [Nat.zero_add]; exact h.cnt s hs) j hj x s hs
  rw [Nat.zero_add, Nat.zero_add] at this
  exact this
theorem CodesAt.setSg {w : World} {C : Nat} {v : Value} {cnt code wide : Nat → Int} (h : CodesAt w C v cnt code wide) (x : Value) : CodesAt (w.setCell ⟨C, 17, none⟩ x) C x cnt code wide :=
  ⟨fun s hs => cell_keep (h.cnt s hs) (by omega), World.cell?_setCell_same _ _ _ h.sg, fun s hs => cell_keep (h.cd s hs) (by omega), fun s hs => cell_keep (h.wd s hs) (by omega), fun i hi => by rw [World.frozen?_setCell]; exact h.fr i hi⟩
theorem CodesAt.setCd {w : World} {C : Nat} {v : Value} {cnt code wide : Nat → Int} (h : CodesAt w C v cnt code wide) (j : Nat) (hj : j < 256) (x : Int) : CodesAt (w.setCell ⟨C, 18 + j, none⟩ (.int .i64 x)) C v cnt (upd code j x) wide :=
  ⟨fun s hs => cell_keep (h.cnt s hs) (by omega), cell_keep h.sg (by omega), cell_upd h.cd j hj x, fun s hs => cell_keep (h.wd s hs) (by omega), fun i hi => by rw [World.frozen?_setCell]; exact h.fr i hi⟩
theorem CodesAt.setWd {w : World} {C : Nat} {v : Value} {cnt code wide : Nat → Int} (h : CodesAt w C v cnt code wide) (j : Nat) (hj : j < 256) (x : Int) : CodesAt (w.setCell ⟨C, 274 + j, none⟩ (.int .i64 x)) C v cnt code (upd wide j x) :=
  ⟨fun s hs => cell_keep (h.cnt s hs) (by omega), cell_keep h.sg (by omega), fun s hs => cell_keep (h.cd s hs) (by omega), cell_upd h.wd j hj x, fun i hi => by rw [World.frozen?_setCell]; exact h.fr i hi⟩

/-- The codes' block as it is laid. -/
def codes0 : Array Value := (Array.range 530).map fun j => if j = 17 then Value.slice none 0 0 else .int .i64 0
theorem zero71 : ∀ w, (zeroValue 71).run Tryd.prog w = .ok (.agg codes0) w :=
  (zero_of_info (P := Tryd.prog) (t := 71) (v := .agg codes0) (n := 530) (by kernel_rfl)).1
theorem codes0_get (j : Nat) (hj : j < 530) : codes0[j]? = some (if j = 17 then Value.slice none 0 0 else .int .i64 0) := by simp [codes0, hj]
theorem CodesAt.new (w : World) (t : Nat) : CodesAt (w.alloc (.cells codes0 71)) w.heap.size (.slice none 0 0) (cntF t 0) (cdF t 0) (wdF t 0) := by
  have hc : ∀ j, j < 530 → (w.alloc (.cells codes0 71)).cell? ⟨w.heap.size, j, none⟩ = some (if j = 17 then Value.slice none 0 0 else .int .i64 0) := fun j hj => by
    rw [cell_of_row _ _ _ _ 71 (0, 0) (heap_alloc_new _ _)]; exact codes0_get j hj
  refine ⟨fun j hj => ?_, ?_, fun s hs => ?_, fun s hs => ?_, fun j hj => frozen_of_row _ _ _ _ 71 (heap_alloc_new _ _)⟩
  · rw [hc j (by omega)]
    by_cases e : j = 17
    · omega
    · rw [if_neg e]; unfold cntF; rw [if_neg (by omega)]
  · rw [hc 17 (by omega), if_pos rfl]
  · rw [hc (18 + s) (by omega), if_neg (by omega)]; rfl
  · rw [hc (274 + s) (by omega), if_neg (by omega)]; rfl

/-- What the loops of standard hold behind k signs: the codes at C, their own row, the row of all signs sv. -/
structure StdAt (w0 : World) (C : Nat) (sv : Value) (t n k : Nat) (wr : World) : Prop where
  c : ∃ v, CodesAt wr C v (cntF t n) (cdF t k) (wdF t k) ∧ RowAt wr 3 v (((sgL t).take k).map i64v) ∧ v.ownBlock ≠ some C ∧ (∀ g, v.ownBlock = some g → w0.heap.size ≤ g ∧ sv.ownBlock ≠ some g)
  s : RowAt wr 3 sv ((sgL t).map i64v)
  b : Below w0.heap.size w0 wr
  hC : w0.heap.size ≤ C
  sC : sv.ownBlock ≠ some C

theorem StdAt.cntSet {w0 : World} {C : Nat} {sv : Value} {t n k : Nat} {wr : World} (h : StdAt w0 C sv t n k wr) (hn : n < 16) (q : Nat) : StdAt w0 C sv t (n + 1) k ((wr.setCell ⟨C, n + 1, none⟩ (.int .i64 (cntN t n))).drewN q) := by
  obtain ⟨v, h1, h2, h3, h4⟩ := h.c
  refine ⟨⟨v, ?_, (h2.setCell _ _ (by exact h3)).drew q, h3, h4⟩, (h.s.setCell _ _ h.sC).drew q, (below_set h.b C _ h.hC _).trans ⟨rfl, rfl, rfl, Nat.le_refl _, fun _ _ => rfl⟩, h.hC, h.sC⟩
  rw [← cntF_succ]
  exact (h1.setCnt (n + 1) (by omega) _).same rfl
/-- Behind one more sign: the row's append and store, the code and the width. -/
theorem StdAt.push {w0 : World} {C : Nat} {sv : Value} {t n k : Nat} {wr : World} (ht : t < 4) (hk : k < (sgL t).length) (h : StdAt w0 C sv t n k wr) {v : Value} (h1 : CodesAt wr C v (cntF t n) (cdF t k) (wdF t k)) (h3 : v.ownBlock ≠ some C)
    (h4 : ∀ g, v.ownBlock = some g → w0.heap.size ≤ g ∧ sv.ownBlock ≠ some g) {w1 : World} {g m cap : Nat} {o : Obj} (hrow : RowAt w1 3 (.slice (some ⟨g, 0, none⟩) m cap) (((sgL t).take k).map i64v ++ [i64v (sgN t k)])) (hg : (wr.alloc o).grownBy w1 v.ownBlock) (ho : v.ownBlock = some g ∨ wr.heap.size + 1 ≤ g) :
    (w1.cell? ⟨C, 17, none⟩ = some v ∧ w1.frozen? ⟨C, 17, none⟩ = false) ∧ ∃ v', v' = Value.slice (some ⟨g, 0, none⟩) m cap ∧ CodesAt (w1.setCell ⟨C, 17, none⟩ v') C v' (cntF t n) (cdF t k) (wdF t k) ∧ ∀ q, 
      StdAt w0 C sv t n (k + 1) ((((w1.setCell ⟨C, 17, none⟩ v').setCell ⟨C, 18 + sgN t k, none⟩ (.int .i64 (codeOf t (sgN t k)))).setCell ⟨C, 274 + sgN t k, none⟩ (.int .i64 (wideOf t (sgN t k)))).drewN q) := by
  have hC := h1.lt
  have hCb : w1.heap[C]? = wr.heap[C]? := (hg.block C (by simp; omega) (fun e => h3 e.symm)).trans (_root_.Go.heap_alloc_old _ _ hC)
  have hne : g ≠ C := by
    intro e
    rcases ho with h5 | h5
    · exact h3 (e ▸ h5)
    · omega
  have hb := h.b.size
  have hc1 := h1.same hCb
  refine ⟨⟨hc1.sg, hc1.fr 17 (by omega)⟩, _, rfl, hc1.setSg _, fun q => ?_⟩
  have hsl := (sg_bd t ht k hk).2.2
  have hsv : RowAt w1 3 sv ((sgL t).map i64v) := (h.s.alloc o).same fun g' hg' => hg.block g' (by have := (h.s.alloc o).lt hg'; exact this) (fun e => (h4 g' e.symm).2 hg')
  have hown : (Value.slice (some ⟨g, 0, none⟩) m cap).ownBlock = some g := rfl
  have hx := (((hc1.setSg (Value.slice (some ⟨g, 0, none⟩) m cap)).setCd (sgN t k) hsl (codeOf t (sgN t k))).setWd (sgN t k) hsl (wideOf t (sgN t k) : Int))
  rw [cdF_succ t k ht hk, wdF_succ t k ht hk] at hx
  refine ⟨⟨_, hx.same rfl, ?_, by rw [hown]; simpa using hne, fun g' hg' => ?_⟩, ?_, ?_, h.hC, h.sC⟩
  · have e : ((sgL t).take (k + 1)).map i64v = ((sgL t).take k).map i64v ++ [i64v (sgN t k)] := by
      have hb2 := (sg_bd t ht k hk).2.1
      rw [List.getD_eq_getElem?_getD, List.getElem?_eq_getElem hk, Option.getD_some] at hb2
      rw [List.take_succ_eq_append_getElem hk, List.map_append, hb2]
      rfl
    rw [e]
    exact (((hrow.setCell _ _ (by rw [hown]; simpa using hne)).setCell _ _ (by rw [hown]; simpa using hne)).setCell _ _ (by rw [hown]; simpa using hne)).drew q
  · rw [hown] at hg'
    injection hg' with hg'
    subst hg'
    rcases ho with h5 | h5
    · exact h4 _ h5
    · refine ⟨by omega, fun e => ?_⟩
      have := h.s.lt e
      omega
  · exact (((hsv.setCell _ _ h.sC).setCell _ _ h.sC).setCell _ _ h.sC).drew q
  · have hb1 : Below w0.heap.size w0 w1 := (h.b.alloc h.b.size o).grown hg (by simp; omega) (fun g' e => (h4 g' e).1)
    exact (below_set (below_set (below_set hb1 C _ h.hC _) C _ h.hC _) C _ h.hC _).trans ⟨rfl, rfl, rfl, Nat.le_refl _, fun _ _ => rfl⟩

end Go.Proofs.YtlibflbpajeeeaaDoor
