/- The contract of huffmanLUT.init: one table's codes by sign. The contract of newLUT: the four tables of codes by sign. What writeDHT holds while it walks: plain steps of memory. What jpeg.Encode holds in memory: the encoder it makes, its tables while they are filled; the contracts of Dx, Dy and Size. The contract of impl.Encode, from the contracts of picture and of jpeg.Encode over one kind of picture. Plain: the file's bytes by kind; how long a scan may get. The contract of writeDHT, gray. Printed by wip/gen/dht.py. (Joined by wip/gen/merge.py.) -/
import Derived.Test.YtlibflbpajeeeaaDoorSpec
import Derived.StillTailTactics
import Derived.IntWalk
import Derived.Outline
import Derived.Test.YtlibflbpajeeeaaDoorJImg
import Derived.Deep.MidRow
import Derived.Test.YtlibflbpajeeeaaDoorJRow
namespace Go.Proofs.YtlibflbpajeeeaaDoor
open Go.RowKit

def arrU (n : Nat) (f : Nat → Int) : Array Value := (Array.range n).map fun j => Value.int .u32 (f j)
theorem arrU_size (n : Nat) (f : Nat → Int) : (arrU n f).size = n := by simp [arrU]
theorem arrU_get (n : Nat) (f : Nat → Int) (j : Nat) (hj : j < n) : (arrU n f)[j]? = some (.int .u32 (f j)) := by
  simp [arrU, hj]
theorem arrU_set (n : Nat) (f : Nat → Int) (j : Nat) (x : Int) : (arrU n f).setIfInBounds j (.int .u32 x) = arrU n (upd f j x) := by
  apply Array.ext_getElem?
  intro i
  by_cases hi : i < n
  · rw [Array.getElem?_setIfInBounds, arrU_get n f i hi, arrU_get n (upd f j x) i hi]
    unfold upd
    by_cases e : j = i
    · subst e
      rw [if_pos rfl, if_pos rfl, if_pos (by rw [arrU_size]; exact hi)]
    · rw [if_neg e, if_neg (fun h => e h.symm)]
  · rw [Array.getElem?_eq_none (by simp [arrU_size]; omega), Array.getElem?_eq_none (by rw [arrU_size]; omega)]
/-- Block B holds n numbers of 32 bits, no sign, by f. -/
def ArrU (w : World) (B : Nat) (n : Nat) (f : Nat → Int) : Prop := w.heap[B]? = some (.cells (arrU n f) 43 (0, 0))
theorem ArrU.cell {w : World} {B n : Nat} {f : Nat → Int} (h : ArrU w B n f) (j : Nat) (hj : j < n) : w.cell? ⟨B, j, none⟩ = some (.int .u32 (f j)) := by
  rw [cell_of_row _ _ _ _ 43 (0, 0) h]; exact arrU_get n f j hj
theorem ArrU.free {w : World} {B n : Nat} {f : Nat → Int} (h : ArrU w B n f) (j : Nat) : w.frozen? ⟨B, j, none⟩ = false := frozen_of_row _ _ _ _ 43 h
theorem ArrU.set {w : World} {B n : Nat} {f : Nat → Int} (h : ArrU w B n f) (j : Nat) (x : Int) : ArrU (w.setCell ⟨B, j, none⟩ (.int .u32 x)) B n (upd f j x) := by
  unfold ArrU
  rw [← arrU_set]
  exact heap_setCell_same w B j (arrU n f) 43 _ h
theorem ArrU.lt {w : World} {B n : Nat} {f : Nat → Int} (h : ArrU w B n f) : B < w.heap.size := by
  rcases Nat.lt_or_ge B w.heap.size with hlt | hge
  · exact hlt
  · unfold ArrU at h
    rw [Array.getElem?_eq_none hge] at h
    cases h

def luF (t k s : Nat) : Int := if inSg t k s = true then lutV t s else 0
theorem luF_succ (t k : Nat) (ht : t < 4) (hk : k < (sgL t).length) : upd (luF t k) (sgN t k) (lutV t (sgN t k)) = luF t (k + 1) := codeUp t k ht hk (lutV t)
theorem luF_zero (t s : Nat) : luF t 0 s = 0 := rfl
theorem luF_all (t s : Nat) (ht : t < 4) (hs : s < 256) : luF t (sgL t).length s = lutV t s := by
  unfold luF
  by_cases h : inSg t (sgL t).length s = true
  · rw [if_pos h]
  · rw [if_neg h, (sg_all t ht s hs (by simpa using h)).2.2]

/-- The greatest of the first k signs. -/
def sgMax (t : Nat) : Nat → Nat
  | 0 => 0
  | k + 1 => if sgMax t k < sgN t k then sgN t k else sgMax t k
theorem sgMax_all : ∀ t, t < 4 → sgMax t (sgL t).length + 1 = (lutL t).length := by decide +kernel
theorem sgMax_lt : ∀ t, t < 4 → ∀ k, k ≤ (sgL t).length → sgMax t k < 256 := by decide +kernel

theorem make12 (w : World) : (Instr.makeSlice 22 (.int .i64 (((11 : Nat) : Int) + 1)) (.int .i64 (((11 : Nat) : Int) + 1))).run Tryd.prog w = .ok (.slice (some ⟨w.heap.size, 0, none⟩) 12 12) (w.alloc (.cells (arrU 12 fun _ => 0) 43)) := by kernel_rfl
theorem make251 (w : World) : (Instr.makeSlice 22 (.int .i64 (((250 : Nat) : Int) + 1)) (.int .i64 (((250 : Nat) : Int) + 1))).run Tryd.prog w = .ok (.slice (some ⟨w.heap.size, 0, none⟩) 251 251) (w.alloc (.cells (arrU 251 fun _ => 0) 43)) := by kernel_rfl
theorem sgMax_is : sgMax 0 (sgL 0).length = 11 ∧ sgMax 1 (sgL 1).length = 250 ∧ sgMax 2 (sgL 2).length = 11 ∧ sgMax 3 (sgL 3).length = 250 := by decide +kernel
theorem make_lut (t : Nat) (ht : t < 4) (w : World) : (Instr.makeSlice 22 (.int .i64 ((sgMax t (sgL t).length : Int) + 1)) (.int .i64 ((sgMax t (sgL t).length : Int) + 1))).run Tryd.prog w = .ok (.slice (some ⟨w.heap.size, 0, none⟩) (lutL t).length (lutL t).length) (w.alloc (.cells (arrU (lutL t).length fun _ => 0) 43)) := by
  obtain ⟨m0, m1, m2, m3⟩ := sgMax_is
  obtain ⟨l0, l1, l2, l3⟩ := lut_len
  match t, ht with
  | 0, _ => rw [m0, l0]; exact make12 w
  | 1, _ => rw [m1, l1]; exact make251 w
  | 2, _ => rw [m2, l2]; exact make12 w
  | 3, _ => rw [m3, l3]; exact make251 w
theorem or24 (a c : Nat) (ha : a ≤ 16) (hc : c < 65536) : bits BinOp.or IntKind.u32 ((a : Int) * 16777216) (c : Int) = 16777216 * (a : Int) + (c : Int) := by
  rw [u32_or _ _ (by omega) (by omega) (by omega) (by omega)]
  have e1 : ((a : Int) * 16777216).toNat = a <<< 24 := by rw [Nat.shiftLeft_eq]; omega
  have hlt : ((c : Int)).toNat < 2 ^ 24 := by
    have : (2 : Nat) ^ 24 = 16777216 := by decide
    omega
  rw [e1, ← Nat.shiftLeft_add_eq_or_of_lt hlt, Nat.shiftLeft_eq]
  have : (2 : Nat) ^ 24 = 16777216 := by decide
  omega

/-- What init reads: the table's box, its signs' row, the cell of the slice. -/
structure InMem (w : World) (S LB k b len cap : Nat) (t : Nat) (x : Value) : Prop where
  cn : ∀ i, i < 16 → w.cell? ⟨S, i, none⟩ = some (.int .u8 (cntN t i))
  sl : w.cell? ⟨S, 16, none⟩ = some (.slice (some ⟨b, 0, none⟩) len cap)
  sg : ∀ i, i < len → w.cell? ⟨b, i, none⟩ = some (.int .u8 (sgN t i))
  hc : w.cell? ⟨LB, k, none⟩ = some x
  hf : w.frozen? ⟨LB, k, none⟩ = false
  ne : S ≠ LB ∧ b ≠ LB
  lt : S < w.heap.size ∧ b < w.heap.size ∧ LB < w.heap.size
theorem InMem.other {w w' : World} {S LB k b len cap t : Nat} {x : Value} (h : InMem w S LB k b len cap t x) (hs : w.heap.size ≤ w'.heap.size) (h1 : w'.heap[S]? = w.heap[S]?) (h2 : w'.heap[b]? = w.heap[b]?) (h3 : w'.heap[LB]? = w.heap[LB]?) : InMem w' S LB k b len cap t x :=
  ⟨fun i hi => (World.cell?_of_block (a := ⟨S, i, none⟩) h1).trans (h.cn i hi), (World.cell?_of_block (a := ⟨S, 16, none⟩) h1).trans h.sl, fun i hi => (World.cell?_of_block (a := ⟨b, i, none⟩) h2).trans (h.sg i hi), (World.cell?_of_block (a := ⟨LB, k, none⟩) h3).trans h.hc, (World.frozen?_of_block (a := ⟨LB, k, none⟩) h3).trans h.hf, h.ne, by have := h.lt; omega⟩
theorem InMem.put {w : World} {S LB k b len cap t : Nat} {x : Value} (h : InMem w S LB k b len cap t x) (y : Value) : InMem (w.setCell ⟨LB, k, none⟩ y) S LB k b len cap t y := by
  obtain ⟨n1, n2⟩ := h.ne
  have o : ∀ B j, B ≠ LB → (w.setCell ⟨LB, k, none⟩ y).cell? ⟨B, j, none⟩ = w.cell? ⟨B, j, none⟩ := fun B j hb => World.cell?_setCell_other _ _ _ _ (by intro e; injection e; omega)
  exact ⟨fun i hi => (o S i n1).trans (h.cn i hi), (o S 16 n1).trans h.sl, fun i hi => (o b i n2).trans (h.sg i hi), World.cell?_setCell_same _ _ _ h.hc, by rw [World.frozen?_setCell]; exact h.hf, h.ne, by simpa [World.setCell] using h.lt⟩

/-- What may have turned. -/
structure InFr (w : World) (LB k : Nat) (wr : World) : Prop where
  kp : Keeps [LB] undef undef w wr
  c : ∀ j, j ≠ k → wr.cell? ⟨LB, j, none⟩ = w.cell? ⟨LB, j, none⟩
  f : ∀ j, wr.frozen? ⟨LB, j, none⟩ = w.frozen? ⟨LB, j, none⟩
  hb : ∀ cz e, w.heap[LB]? = some (.cells cz e (0, 0)) → ∃ cy, wr.heap[LB]? = some (.cells cy e (0, 0)) ∧ cy.size = cz.size
theorem InFr.alloc {w wr : World} {LB k : Nat} (h : InFr w LB k wr) (hLB : LB < w.heap.size) (o : Obj) : InFr w LB k (wr.alloc o) := by
  have hs := h.kp.size
  exact ⟨h.kp.trans (Keeps.alloc _ _ _ _), fun j hj => (World.cell?_alloc_past _ _ _ (by omega)).trans (h.c j hj), fun j => (World.frozen?_alloc_past _ _ _ (by omega)).trans (h.f j), fun cz e he => by
    obtain ⟨cy, h1, h2⟩ := h.hb cz e he
    exact ⟨cy, by rw [heap_alloc_old _ _ (by omega)]; exact h1, h2⟩⟩
theorem InFr.put {w wr : World} {LB k : Nat} (h : InFr w LB k wr) (y : Value) : InFr w LB k (wr.setCell ⟨LB, k, none⟩ y) :=
  ⟨h.kp.trans (Keeps.setCell _ _ _ _ (by simp)), fun j hj => (World.cell?_setCell_other _ _ _ _ (by intro e; injection e; omega)).trans (h.c j hj), fun j => (World.frozen?_setCell _ _ _ _).trans (h.f j), fun cz e he => by
    obtain ⟨cy, h1, h2⟩ := h.hb cz e he
    exact ⟨_, heap_setCell_same _ _ _ _ _ _ h1, by rw [Array.size_setIfInBounds]; exact h2⟩⟩
theorem InFr.set {w wr : World} {LB k : Nat} (h : InFr w LB k wr) (L j : Nat) (hL : w.heap.size ≤ L) (hne : L ≠ LB) (y : Value) : InFr w LB k (wr.setCell ⟨L, j, none⟩ y) := by
  refine ⟨⟨h.kp.os, h.kp.tape, h.kp.output, by simpa [World.setCell] using h.kp.size, fun i hi hb hv => ?_, fun _ e => by cases e⟩, fun i hi => (World.cell?_setCell_other _ _ _ _ (by intro e; injection e; omega)).trans (h.c i hi), fun i => (World.frozen?_setCell _ _ _ _).trans (h.f i), fun cz e he => by
    obtain ⟨cy, h1, h2⟩ := h.hb cz e he
    exact ⟨cy, by rw [heap_set_other _ _ _ _ _ (by omega)]; exact h1, h2⟩⟩
  rw [heap_set_other _ _ _ _ _ (by omega)]
  exact h.kp.block i hi hb hv
theorem InFr.drew {w wr : World} {LB k : Nat} (h : InFr w LB k wr) (q : Nat) : InFr w LB k (wr.drewN q) := ⟨h.kp.trans (Keeps.drew _ _ _ q), h.c, h.f, h.hb⟩

/-- What the loops of init hold behind k' signs. -/
structure InRel (w : World) (S LB k b len cap t L n : Nat) (k' : Nat) (wr : World) : Prop where
  m : InMem wr S LB k b len cap t (.slice (some ⟨L, 0, none⟩) n n)
  a : ArrU wr L n (luF t k')
  f : InFr w LB k wr
  ne : w.heap.size ≤ L ∧ L ≠ LB ∧ L ≠ S ∧ L ≠ b
theorem InRel.drew {w : World} {S LB k b len cap t L n k' : Nat} {wr : World} (h : InRel w S LB k b len cap t L n k' wr) (q : Nat) : InRel w S LB k b len cap t L n k' (wr.drewN q) := ⟨h.m.other (Nat.le_refl _) rfl rfl rfl, h.a, h.f.drew q, h.ne⟩
theorem InRel.push {w : World} {S LB k b len cap t L n k' : Nat} {wr : World} (h : InRel w S LB k b len cap t L n k' wr) (ht : t < 4) (hk : k' < (sgL t).length) : InRel w S LB k b len cap t L n (k' + 1) (wr.setCell ⟨L, sgN t k', none⟩ (.int .u32 (lutV t (sgN t k')))) := by
  obtain ⟨n1, n2, n3, n4⟩ := h.ne
  refine ⟨h.m.other (by simp [World.setCell]) (heap_set_other _ _ _ _ _ (by omega)) (heap_set_other _ _ _ _ _ (by omega)) (heap_set_other _ _ _ _ _ (by omega)), ?_, h.f.set L _ n1 n2 _, h.ne⟩
  rw [← luF_succ t k' ht hk]
  exact h.a.set _ _

/-- The table is done: its slice stands at place k of block LB, a new block. -/
def InitPost (w : World) (LB k t : Nat) (e : Ending) (w' : World) : Prop :=
  e = .returned (.tuple #[]) ∧ ∃ L, w'.cell? ⟨LB, k, none⟩ = some (.slice (some ⟨L, 0, none⟩) (lutL t).length (lutL t).length) ∧ w.heap.size ≤ L ∧ ArrU w' L (lutL t).length (lutV t) ∧ Keeps [LB] undef undef w w' ∧
    (∀ j, j ≠ k → w'.cell? ⟨LB, j, none⟩ = w.cell? ⟨LB, j, none⟩) ∧ (∀ j, w'.frozen? ⟨LB, j, none⟩ = w.frozen? ⟨LB, j, none⟩) ∧
    ∀ cz e, w.heap[LB]? = some (.cells cz e (0, 0)) → ∃ cy, w'.heap[LB]? = some (.cells cy e (0, 0)) ∧ cy.size = cz.size

set_option maxRecDepth 100000 in
set_option maxHeartbeats 2000000 in
theorem init_any (w : World) (t : Nat) (ht : t < 4) (LB k : Nat) (cs : Array Value) (b len cap : Nat) (x : Value) (hlen : len = (sgL t).length) (hh : w.cell? ⟨LB, k, none⟩ = some x) (hf : w.frozen? ⟨LB, k, none⟩ = false)
    (hrow : RowAt w 5 (.slice (some ⟨b, 0, none⟩) len cap) ((sgL t).map u8v)) (hbh : b ≠ LB)
    (hcn : ∀ i, i < 16 → cs[i]? = some (.int .u8 (cntN t i))) (hsl : cs[16]? = some (.slice (some ⟨b, 0, none⟩) len cap)) :
    Calls Tryd.prog 52 #[.pointer (some ⟨LB, k, none⟩), .agg cs] w (InitPost w LB k t) := by
  have hLB := World.block_lt_of_cell? w _ hh
  have hbl := hrow.lt (g := b) rfl
  have hmem : InMem (w.alloc (.cells cs 133)) w.heap.size LB k b len cap t x := by
    refine ⟨fun i hi => ?_, ?_, fun i hi => ?_, (World.cell?_alloc_past _ _ _ hLB).trans hh, (World.frozen?_alloc_past _ _ _ hLB).trans hf, ⟨by show _ ≠ LB; have : LB < w.heap.size := hLB; omega, hbh⟩, by have : LB < w.heap.size := hLB; simp; omega⟩
    · rw [cell_of_row _ _ _ _ 133 (0, 0) (heap_alloc_new _ _)]; exact hcn i hi
    · rw [cell_of_row _ _ _ _ 133 (0, 0) (heap_alloc_new _ _)]; exact hsl
    · rw [World.cell?_alloc_past _ _ _ hbl, hrow.cell (g := b) rfl i (by rw [List.length_map]; omega), List.getElem_map]
      have hb2 := (sg_bd t ht i (by omega)).2.1
      rw [List.getD_eq_getElem?_getD, List.getElem?_eq_getElem (by omega), Option.getD_some] at hb2
      rw [hb2]
      rfl
  have hmx := sgMax_all t ht
  have hmk := make_lut t ht
  rw [← hlen] at hmk hmx
  have HLEN := Lib.hid hlen
  have hl162 := (std_total t ht).2.1
  rw [← hlen] at hl162
  have HM0 := Lib.hid hmem
  have hS16 := hmem.sl
  have hfr : InFr w LB k (w.alloc (.cells cs 133)) := ⟨Keeps.alloc _ _ _ _, fun j _ => World.cell?_alloc_past _ _ _ hLB, fun j => World.frozen?_alloc_past _ _ _ hLB, fun cz e he => ⟨cz, by rw [heap_alloc_old _ _ hLB]; exact he, rfl⟩⟩
  have HFR := Lib.hid hfr
  have hLB' : LB < w.heap.size := hLB
  obtain ⟨S, hS⟩ : ∃ S, S = w.heap.size := ⟨_, rfl⟩
  clear hrow hcn hsl hlen hh hf hmem hfr hLB
  go_enter Tryd.func52, Tryd.ntmps52
  go_wp2_with fail
  rw [← hS] at HM0
  rw [← hS]
  generalize w.alloc (.cells cs 133) = W1 at HM0 HFR hS16 ⊢
  rw [← hS] at hS16
  have HS := Lib.hid hS
  clear hS
  go_loop [4, 6, 15] (fun mv _ iv => ∃ i : Nat, i ≤ len ∧ iv = .int .i64 i ∧ mv = .int .i64 (sgMax t i)) (fun _ _ iv => len - (intOf iv).toNat)
  case atStart => exact ⟨0, by omega, rfl, rfl⟩
  case round =>
    obtain ⟨i, hi, rfl, rfl⟩ := hrel
    by_cases hil : i < len
    · have hsg := HM0.out.sg i hil
      have hil2 : (i : Int) < (len : Int) := by omega
      have hnx : sgMax t (i + 1) = if sgMax t i < sgN t i then sgN t i else sgMax t i := rfl
      have hb1 := (sg_bd t ht i (by rw [← HLEN.out]; exact hil)).2.2
      obtain ⟨g, hg⟩ : ∃ g, g = sgN t i := ⟨_, rfl⟩
      obtain ⟨mx, hmx'⟩ : ∃ g, g = sgMax t i := ⟨_, rfl⟩
      rw [← hg] at hsg hnx hb1
      rw [← hmx'] at hnx ⊢
      have HNX := Lib.hid hnx
      clear hg hmx' hnx hmk hmx
      by_cases hgt : mx < g
      · have hgb : decide ((mx : Int) < (g : Int)) = true := by simp; omega
        go_wp2_with fail
        go_round
        case rel => exact ⟨i + 1, by omega, by go_num, by rw [HNX.out, if_pos hgt]⟩
        case measure => simp [intOf]; omega
      · have hgb : decide ((mx : Int) < (g : Int)) = false := by simp; omega
        go_wp2_with fail
        go_round
        case rel => exact ⟨i + 1, by omega, by go_num, by rw [HNX.out, if_neg hgt]⟩
        case measure => simp [intOf]; omega
    · obtain rfl : i = len := by omega
      obtain ⟨mxv, hmxv⟩ : ∃ g, g = sgMax t i := ⟨_, rfl⟩
      have hmb : mxv < 256 := by rw [hmxv, HLEN.out]; exact sgMax_lt t ht _ (Nat.le_refl _)
      have hcx := HM0.out.hc
      have hcf := HM0.out.hf
      rw [← hmxv] at hmk
      rw [← hmxv]
      obtain ⟨nl, hnl⟩ : ∃ g, g = (lutL t).length := ⟨_, rfl⟩
      rw [← hnl] at hmk
      have HNL := Lib.hid hnl
      clear hmx hmxv hnl
      have hLBW : LB < W1.heap.size := HM0.out.lt.2.2
      go_wp2_with fail
      clear hmk hcx hcf
      have hrel0 : InRel w S LB k b i cap t W1.heap.size nl 0 ((W1.setCell ⟨LB, k, none⟩ (.slice (some ⟨W1.heap.size, 0, none⟩) nl nl)).alloc (.cells (arrU nl fun _ => 0) 43)) := by
        have hlt := HM0.out.lt
        have hsz := HFR.out.kp.size
        have hm := HM0.out.put (.slice (some ⟨W1.heap.size, 0, none⟩) nl nl)
        have hw : ∀ B, B < W1.heap.size → ((W1.setCell ⟨LB, k, none⟩ (.slice (some ⟨W1.heap.size, 0, none⟩) nl nl)).alloc (.cells (arrU nl fun _ => 0) 43)).heap[B]? = (W1.setCell ⟨LB, k, none⟩ (.slice (some ⟨W1.heap.size, 0, none⟩) nl nl)).heap[B]? := fun B hB => heap_alloc_old _ _ (by simpa [World.setCell] using hB)
        refine ⟨hm.other (by simp) (hw _ hlt.1) (hw _ hlt.2.1) (hw _ hlt.2.2), ?_, (HFR.out.put _).alloc hLB' _, by omega, by omega, by omega, by omega⟩
        have := heap_alloc_new (W1.setCell ⟨LB, k, none⟩ (.slice (some ⟨W1.heap.size, 0, none⟩) nl nl)) (.cells (arrU nl fun _ => 0) 43)
        have e : luF t 0 = fun _ => (0 : Int) := rfl
        rw [ArrU, e]
        simpa [World.setCell] using this
      have HR0 := Lib.hid hrel0
      clear hrel0
      generalize (W1.setCell _ _).alloc _ = W2 at HR0 ⊢
      generalize W1.heap.size = L at HR0 ⊢
      go_loopw [7, 8, 9, 10, 11] (fun cv kv iv _ _ wr => ∃ n : Nat, n ≤ 16 ∧ iv = .int .i64 n ∧ cv = .int .u32 (stdRun t n).2 ∧ kv = .int .i64 (stdRun t n).1 ∧ InRel w S LB k b i cap t L nl (stdRun t n).1 wr) (fun _ _ iv _ _ _ => 16 - (intOf iv).toNat)
      case atStart => exact ⟨0, by omega, rfl, rfl, rfl, HR0.out⟩
      case round =>
        obtain ⟨n, hn, rfl, rfl, rfl, hst⟩ := hrel
        by_cases hn16 : n < 16
        · obtain ⟨cb1, cb2, cb3, cb4, cb5⟩ := cnt_bd t ht n hn16
          have hsc := std_code t ht n hn16
          have hrun : stdRun t (n + 1) = ((stdRun t n).1 + cntN t n, ((stdRun t n).2 + cntN t n) * 2) := rfl
          have hcn := fun (wx : World) (q : InRel w S LB k b i cap t L nl (stdRun t n).1 wx) => q.m.cn n hn16
          obtain ⟨k0, hk0⟩ : ∃ k0, k0 = (stdRun t n).1 := ⟨_, rfl⟩
          obtain ⟨c0, hc0⟩ : ∃ c0, c0 = (stdRun t n).2 := ⟨_, rfl⟩
          obtain ⟨m, hm⟩ : ∃ m, m = cntN t n := ⟨_, rfl⟩
          rw [← hk0] at cb3 hsc hrun hst
          rw [← hc0] at cb4 cb5 hsc hrun
          rw [← hk0, ← hc0]
          rw [← hm] at cb1 cb3 cb5 hsc hrun
          have HSC := Lib.hid hsc
          have HRUN := Lib.hid hrun
          have HM := Lib.hid hm
          have HST := Lib.hid hst
          have hlt16 : decide ((n : Int) < 16) = true := by simp; omega
          clear hcn hsc hrun hst hk0 hc0 hm cb2
          obtain ⟨w0, rfl⟩ : ∃ w0 : World, w0 = wr := ⟨_, rfl⟩
          go_wp2_with fail
          go_loopw [7, 8, 11] (fun cv kv jv wr => ∃ j : Nat, j ≤ m ∧ jv = .int .u8 j ∧ cv = .int .u32 (c0 + j) ∧ kv = .int .i64 ((k0 + j : Nat) : Int) ∧ InRel w S LB k b i cap t L nl (k0 + j) wr) (fun _ _ jv _ => m - (intOf jv).toNat)
          case atStart => exact ⟨0, by omega, rfl, by simp, by simp, HST.out⟩
          case round =>
            obtain ⟨j, hj, rfl, rfl, rfl, hst⟩ := hrel
            have hcj : wr.cell? ⟨S, n, none⟩ = some (.int .u8 m) := by rw [HM.out]; exact hst.m.cn n hn16
            by_cases hjm : j < m
            · have hkl : k0 + j < (sgL t).length := by omega
              have hkl2 : k0 + j < i := by rw [HLEN.out]; exact hkl
              obtain ⟨sc1, sc2, sc3⟩ := HSC.out j hjm
              obtain ⟨sb1, sb2, sb3⟩ := sg_bd t ht (k0 + j) hkl
              have hsg := hst.m.sg (k0 + j) hkl2
              have hsl := hst.m.sl
              have hcx := hst.m.hc
              have hpush := (hst.drew 1).push ht hkl
              obtain ⟨cj, hcjj⟩ : ∃ cj : Nat, (cj : Int) = c0 + j := ⟨(c0 + j).toNat, by omega⟩
              have hcjb : cj < 65536 := by omega
              have hor := or24 (n + 1) cj (by omega) (by omega)
              rw [sc3, ← hcjj] at hpush
              rw [← hcjj]
              have hfree := hst.a.free
              have hcell := hst.a.cell
              obtain ⟨sN, hsN⟩ : ∃ sN, sN = sgN t (k0 + j) := ⟨_, rfl⟩
              rw [← hsN] at hsg hpush sb1 sb3
              rw [← HNL.out] at sb1
              have hfs := hfree sN
              have hcs := hcell sN sb1
              obtain ⟨old, hold⟩ : ∃ z, z = luF t (k0 + j) sN := ⟨_, rfl⟩
              rw [← hold] at hcs
              obtain ⟨kj, hkj⟩ : ∃ kj, kj = k0 + j := ⟨_, rfl⟩
              rw [← hkj] at hsg
              rw [← hkj]
              have hkb : kj < i := by omega
              have hkz : (kj : Int) < (i : Int) := by omega
              have hsz : (sN : Int) < (nl : Int) := by omega
              rw [show ((n + 1 : Nat) : Int) = (n : Int) + 1 by push_cast; rfl] at hor
              have HP := Lib.hid hpush
              have HCJ := Lib.hid hcjj
              have HKJ := Lib.hid hkj
              clear hpush hst hsN sc1 sc2 sc3 sb2 hold hfree hcell hcjj hkj
              go_wp2_with fail
              go_still_tail 12, (by kernel_rfl)
              change wpList _ _ _ _ _ wr.drew
              go_wp2_with fail
              go_roundw
              case rel =>
                refine ⟨j + 1, by omega, by go_num, ?_, ?_, ?_⟩
                · rw [HCJ.out]; go_num
                · rw [HKJ.out]; go_num
                · exact HP.out
              case measure => simp [intOf]; omega
            · obtain rfl : j = m := by omega
              have HST2 := Lib.hid hst
              clear hst
              go_wp2_with fail
              go_roundw
              case rel =>
                refine ⟨n + 1, by omega, by go_num, ?_, ?_, ?_⟩
                · rw [HRUN.out]
                · rw [HRUN.out]
                · rw [HRUN.out]; exact HST2.out
              case measure => simp [intOf]; omega
        · obtain rfl : n = 16 := by omega
          rw [show ((16 : Nat) : Int) = 16 from rfl]
          obtain ⟨t1, t2, t3, t4⟩ := std_total t ht
          have HST := Lib.hid hst
          clear hst
          go_wp2_with fail
          go_end0
          rw [t1] at HST
          refine ⟨rfl, L, ?_, HST.out.ne.1, ?_, HST.out.f.kp, HST.out.f.c, HST.out.f.f, HST.out.f.hb⟩
          · rw [← HNL.out]; exact HST.out.m.hc
          · rw [← HNL.out]
            have ha := HST.out.a
            have e : arrU nl (luF t (sgL t).length) = arrU nl (lutV t) := by
              apply Array.ext_getElem?
              intro q
              by_cases hq : q < nl
              · rw [arrU_get _ _ _ hq, arrU_get _ _ _ hq, luF_all t q ht (by have := lut_len_le t ht; rw [HNL.out] at hq; omega)]
              · rw [Array.getElem?_eq_none (by rw [arrU_size]; omega), Array.getElem?_eq_none (by rw [arrU_size]; omega)]
            unfold ArrU at ha ⊢
            rw [← e]
            exact ha
end Go.Proofs.YtlibflbpajeeeaaDoor

namespace Go.Proofs.YtlibflbpajeeeaaDoor
open Go.RowKit

theorem wpStill_load_row {P : Program} {ops : Array Oper} {rest : List Oper} {o : Oper} {a : Act} {w : World} {Q : Act → Prop} (hgd : o.guard = none) (ty : TypeId) (x : Operand) (ho : o.op = .load ty x)
    (g : Nat) (hx : a.eval x = .pointer (some ⟨g, 0, none⟩)) (t : TypeId) (cs : Array Value) (fr : Nat × Nat) (d : TypeDesc) (hg : w.heap[g]? = some (.cells cs t fr))
    (hu : P.underlying ty = some d) (hd : (match d with | .struct _ | .array _ _ => true | _ => false) = true) (hi : (P.info? ty).map (·.size) = some cs.size)
    (h : wpStill P ops w Q rest (a.put o.dst (.agg cs))) : wpStill P ops w Q (o :: rest) a := by
  refine wpStill_step fun K hK => ?_
  simp only [Region.wanted, hgd, if_true]
  unfold Oper.still execOp
  simp only [ho, hx, Instr.loadAt, Instr.sureAddr, Sem.run_bind, Sem.run_pure, Result.andThen_ok, run_loadVar_row w g t ty cs fr d hg hu hd hi, Oper.stillUpon_value]
  exact hK _ h

def specR (t b : Nat) : Array Value := (specRow t (b + t)).toArray
theorem specR_size (t b : Nat) (ht : t < 4) : (specR t b).size = 17 := by
  match t, ht with
  | 0, _ => rfl
  | 1, _ => rfl
  | 2, _ => rfl
  | 3, _ => rfl
theorem specR_one0 (b : Nat) : (specR 0 b).all (·.oneCell') = true := by kernel_rfl
theorem specR_one1 (b : Nat) : (specR 1 b).all (·.oneCell') = true := by kernel_rfl
theorem specR_one2 (b : Nat) : (specR 2 b).all (·.oneCell') = true := by kernel_rfl
theorem specR_one3 (b : Nat) : (specR 3 b).all (·.oneCell') = true := by kernel_rfl
theorem specR_one (t b : Nat) (ht : t < 4) : (specR t b).all (·.oneCell') = true := by
  match t, ht with
  | 0, _ => exact specR_one0 b
  | 1, _ => exact specR_one1 b
  | 2, _ => exact specR_one2 b
  | 3, _ => exact specR_one3 b
theorem specR_cn (t b : Nat) (ht : t < 4) (i : Nat) (hi : i < 16) : (specR t b)[i]? = some (.int .u8 (cntN t i)) := by
  have hl := (std_total t ht).2.2.2
  have hb := (cnt_bd t ht i hi).2.1
  rw [List.getD_eq_getElem?_getD, List.getElem?_eq_getElem (by omega), Option.getD_some] at hb
  unfold specR specRow
  rw [List.getElem?_toArray, List.getElem?_append_left (by rw [List.length_map]; omega), List.getElem?_map, List.getElem?_eq_getElem (by omega), hb]
  rfl
theorem specR_sl (t b : Nat) (ht : t < 4) : (specR t b)[16]? = some (.slice (some ⟨b + t, 0, none⟩) (sgL t).length (sgL t).length) := by
  have hl := (std_total t ht).2.2.2
  unfold specR specRow
  rw [List.getElem?_toArray, List.getElem?_append_right (by rw [List.length_map]; omega), List.length_map, hl]
  rfl
theorem idx134_0 (b : Nat) (w : World) : (Instr.index 134 (.agg (specC b)) (.int .i64 ((0 : Nat) : Int))).run Tryd.prog w = .ok (.agg (specR 0 b)) w := by kernel_rfl
theorem idx134_1 (b : Nat) (w : World) : (Instr.index 134 (.agg (specC b)) (.int .i64 ((1 : Nat) : Int))).run Tryd.prog w = .ok (.agg (specR 1 b)) w := by kernel_rfl
theorem idx134_2 (b : Nat) (w : World) : (Instr.index 134 (.agg (specC b)) (.int .i64 ((2 : Nat) : Int))).run Tryd.prog w = .ok (.agg (specR 2 b)) w := by kernel_rfl
theorem idx134_3 (b : Nat) (w : World) : (Instr.index 134 (.agg (specC b)) (.int .i64 ((3 : Nat) : Int))).run Tryd.prog w = .ok (.agg (specR 3 b)) w := by kernel_rfl
theorem idx134 (t b : Nat) (ht : t < 4) (w : World) : (Instr.index 134 (.agg (specC b)) (.int .i64 (t : Int))).run Tryd.prog w = .ok (.agg (specR t b)) w := by
  match t, ht with
  | 0, _ => exact idx134_0 b w
  | 1, _ => exact idx134_1 b w
  | 2, _ => exact idx134_2 b w
  | 3, _ => exact idx134_3 b w
theorem info133 : (Tryd.prog.info? 133).map (·.size) = some 17 := by kernel_rfl
theorem info113 : (Tryd.prog.info? 113).map (·.size) = some 4 := by kernel_rfl
noncomputable def zero133c : Array Value := (((Tryd.prog.info? 133).bind (·.zero)).getD undef).cells
theorem zero133 : ∀ w, (zeroValue 133).run Tryd.prog w = .ok (.agg zero133c) w := by
  intro w
  kernel_rfl
theorem zero133_size : zero133c.size = 17 := by kernel_rfl
noncomputable def zero113c : Array Value := (((Tryd.prog.info? 113).bind (·.zero)).getD undef).cells
theorem zero113 : ∀ w, (zeroValue 113).run Tryd.prog w = .ok (.agg zero113c) w := by
  intro w
  kernel_rfl
theorem zero113_size : zero113c.size = 4 := by kernel_rfl

/-- Behind k tables. -/
structure NL (w : World) (B b k : Nat) (zs : Array Value) (wr : World) : Prop where
  bw : Below w.heap.size w wr
  hr : wr.heap[B]? = some (.cells zs 113 (0, 0))
  hB : w.heap.size ≤ B ∧ B + 1 < b
  hl : ∃ cz, wr.heap[B + 1]? = some (.cells cz 113 (0, 0)) ∧ cz.size = 4 ∧ ∀ t, t < k → ∃ L, cz[t]? = some (.slice (some ⟨L, 0, none⟩) (lutL t).length (lutL t).length) ∧ B + 1 < L ∧ ArrU wr L (lutL t).length (lutV t)
  rows : ∀ t, t < 4 → RowAt wr 5 (.slice (some ⟨b + t, 0, none⟩) (sgL t).length (sgL t).length) ((sgL t).map u8v)
theorem NL.alloc {w wr : World} {B b k : Nat} {zs : Array Value} (h : NL w B b k zs wr) (o : Obj) : NL w B b k zs (wr.alloc o) := by
  have lt1 : ∀ {q x}, wr.heap[q]? = some x → q < wr.heap.size := fun {q x} hq => by
    rcases Nat.lt_or_ge q wr.heap.size with h | h
    · exact h
    · rw [Array.getElem?_eq_none h] at hq; cases hq
  obtain ⟨cz, h1, h2, h3⟩ := h.hl
  refine ⟨h.bw.alloc h.bw.size o, by rw [heap_alloc_old _ _ (lt1 h.hr)]; exact h.hr, h.hB, ⟨cz, by rw [heap_alloc_old _ _ (lt1 h1)]; exact h1, h2, fun t ht => ?_⟩, fun t ht => (h.rows t ht).alloc o⟩
  obtain ⟨L, l1, l2, l3⟩ := h3 t ht
  exact ⟨L, l1, l2, by unfold ArrU; rw [heap_alloc_old _ _ l3.lt]; exact l3⟩
theorem NL.drew {w wr : World} {B b k : Nat} {zs : Array Value} (h : NL w B b k zs wr) : NL w B b k zs wr.drew := ⟨h.bw.drew, h.hr, h.hB, h.hl, fun t ht => (h.rows t ht).drew1⟩
theorem NL.step {w wr w' : World} {B b k : Nat} {zs : Array Value} {e : Ending} (h : NL w B b k zs wr) (hk : k < 4) (hi : InitPost wr (B + 1) k k e w') : NL w B b (k + 1) zs w' := by
  obtain ⟨_, L, i1, i2, i3, i4, i5, i6, i7⟩ := hi
  obtain ⟨cz, h1, h2, h3⟩ := h.hl
  have lt1 : ∀ {q x}, wr.heap[q]? = some x → q < wr.heap.size := fun {q x} hq => by
    rcases Nat.lt_or_ge q wr.heap.size with h | h
    · exact h
    · rw [Array.getElem?_eq_none h] at hq; cases hq
  obtain ⟨cy, y1, y2⟩ := i7 cz 113 h1
  have hbl := lt1 h1
  obtain ⟨b1, b2⟩ := h.hB
  have keep : ∀ q, q < wr.heap.size → q ≠ B + 1 → w'.heap[q]? = wr.heap[q]? := fun q hq hne => i4.block q hq (by simp; exact hne) (by simp [undef, Value.ownBlock])
  refine ⟨⟨i4.os.trans h.bw.os, i4.tape.trans h.bw.tape, i4.output.trans h.bw.output, Nat.le_trans h.bw.size i4.size, fun q hq => ?_⟩, ?_, h.hB, ⟨cy, y1, y2.trans h2, fun t ht => ?_⟩, fun t ht => ?_⟩
  · have := h.bw.size
    rw [keep q (by omega) (by omega)]
    exact h.bw.block q hq
  · rw [keep B (lt1 h.hr) (by omega)]; exact h.hr
  · by_cases e : t = k
    · subst e
      refine ⟨L, ?_, by omega, i3⟩
      rw [cell_of_row _ _ _ _ 113 (0, 0) y1] at i1
      exact i1
    · obtain ⟨L', l1, l2, l3⟩ := h3 t (by omega)
      refine ⟨L', ?_, l2, by unfold ArrU; rw [keep L' l3.lt (by omega)]; exact l3⟩
      have := i5 t e
      rw [cell_of_row _ _ _ _ 113 (0, 0) y1, cell_of_row _ _ _ _ 113 (0, 0) h1] at this
      rw [this]; exact l1
  · refine (h.rows t ht).same fun g hg => ?_
    have hlt := (h.rows t ht).lt hg
    simp [Value.ownBlock] at hg
    exact keep g hlt (by omega)

/-- The four tables, by value. -/
def LutPost (w : World) (e : Ending) (w' : World) : Prop :=
  ∃ cz : Array Value, e = .returned (.agg cz) ∧ cz.size = 4 ∧ Below w.heap.size w w' ∧ ∀ t, t < 4 → ∃ L, cz[t]? = some (.slice (some ⟨L, 0, none⟩) (lutL t).length (lutL t).length) ∧ w.heap.size ≤ L ∧ ArrU w' L (lutL t).length (lutV t)

set_option maxRecDepth 100000 in
set_option maxHeartbeats 2000000 in
theorem newLUT_any (w : World) : Calls Tryd.prog 40 #[] w (LutPost w) := by
  have hz133 := zero133
  have hz133s := zero133_size
  have hz113 := zero113
  have hz113s := zero113_size
  generalize zero133c = z133 at hz133 hz133s
  generalize zero113c = z113 at hz113 hz113s
  have HZ1 := Lib.hid hz133s
  have HZ2 := Lib.hid hz113s
  clear hz133s hz113s
  go_enter Tryd.func40, Tryd.ntmps40
  go_wp2_with fail
  refine (spec_any _).mono ?_
  rintro e w1 ⟨rfl, hb, hrows⟩
  have hNL : NL w w.heap.size (w.heap.size + 3) 0 z113 w1 := by
    refine ⟨(((Below.refl _ _).alloc (Nat.le_refl _) (.cells z113 113)).alloc (by simp) (.cells z113 113)).trans (hb.mono (by simp; omega)), ?_, ⟨Nat.le_refl _, by omega⟩, ⟨z113, ?_, HZ2.out, fun t ht => by omega⟩, fun t ht => ?_⟩
    · rw [hb.block _ (by simp; omega), heap_alloc_old _ _ (by simp)]
      exact heap_alloc_new _ _
    · rw [hb.block _ (by simp)]
      have := heap_alloc_new (w.alloc (.cells z113 113)) (.cells z113 113)
      simpa using this
    · have := hrows t ht
      simpa using this
  have hC : specC (((w.alloc (.cells z113 113)).alloc (.cells z113 113)).heap.size + 1) = specC (w.heap.size + 3) := by simp
  rw [hC]
  have HN := Lib.hid hNL
  clear hb hrows hNL hC
  obtain ⟨B, hB⟩ : ∃ B, B = w.heap.size := ⟨_, rfl⟩
  rw [← hB] at HN
  rw [← hB]
  have HB := Lib.hid hB
  clear hB
  have hix := fun t ht w => idx134 t (B + 3) ht w
  generalize specC (B + 3) = sc at hix ⊢
  go_wp2_with fail
  go_loopw [5] (fun kv wr => ∃ k : Nat, k ≤ 4 ∧ kv = .int .i64 k ∧ NL w B (B + 3) k z113 wr) (fun kv _ => 4 - (intOf kv).toNat)
  case atStart => exact ⟨0, by omega, rfl, HN.out⟩
  case round =>
    obtain ⟨k, hk, rfl, hst⟩ := hrel
    by_cases hk4 : k < 4
    · have hixk := hix k hk4
      have HIX := Lib.hid hix
      clear hix
      have hsz := specR_size k (B + 3) hk4
      have hone := specR_one k (B + 3) hk4
      have hcn := specR_cn k (B + 3) hk4
      have hsl := specR_sl k (B + 3) hk4
      obtain ⟨cs, hcs⟩ : ∃ cs, cs = specR k (B + 3) := ⟨_, rfl⟩
      rw [← hcs] at hsz hone hcn hsl hixk
      have HI := Lib.hid (info133.trans (congrArg some hsz.symm))
      have HZZ := Lib.hid (HZ1.out.trans hsz.symm)
      have HST := Lib.hid hst
      have HON := Lib.hid hone
      have HCN := Lib.hid hcn
      have HSL := Lib.hid hsl
      clear hsz hone hcn hsl hcs hst
      go_wp2_with ((with_reducible show wpList _ _ _ (⟨none, .store 133 (.tmp 3) (.tmp 8), _, _, _, _⟩ :: _) _ _); refine wpList_store_new rfl 133 (.tmp 3) (.tmp 8) rfl wr.heap.size cs rfl rfl _ _ 133 rfl HI.out HZZ.out HON.out ?_)
      obtain ⟨g, hg⟩ : ∃ g, g = wr.heap.size := ⟨_, rfl⟩
      have hbox := heap_alloc_new wr (.cells cs 133)
      have hn3 := HST.out.alloc (.cells cs 133)
      rw [← hg] at hbox
      rw [← hg]
      generalize wr.alloc (.cells cs 133) = W3 at hbox hn3 ⊢
      have HBOX := Lib.hid hbox
      obtain ⟨cz, c1, c2, c3⟩ := hn3.hl
      have H3 := Lib.hid hn3
      have HINIT : RowKit.Hid (Calls Tryd.prog 52 #[.pointer (some ⟨B + 1, k, none⟩), .agg cs] W3.drew (InitPost W3.drew (B + 1) k k)) := Lib.hid (by
        refine init_any W3.drew k hk4 (B + 1) k cs (B + 3 + k) (sgL k).length (sgL k).length (cz[k]'(by omega)) rfl ?_ ?_ ((hn3.rows k hk4).drew1) (by omega) HCN.out HSL.out
        · show W3.cell? _ = _
          rw [cell_of_row _ _ _ _ 113 (0, 0) c1]
          exact Array.getElem?_eq_getElem (by omega)
        · exact frozen_of_row _ _ _ _ 113 c1)
      have HCN2 := HCN
      clear hbox hn3 c1 c2 c3 hg
      go_wp2_with fail
      refine wp_region_still_tail 3 (by kernel_rfl) (by kernel_rfl) ?_
      simp only [List.take_succ_cons, List.take_zero, List.drop_succ_cons, List.drop_zero]
      still_step
      still_step
      refine wpStill_load_row rfl 133 (.tmp 3) rfl g rfl 133 cs (0, 0) _ HBOX.out Tryd.underlying133 rfl HI.out ?_
      refine wpStill_nil ?_
      change wpList _ _ _ _ _ W3.drew
      go_wp2_with fail
      refine HINIT.out.mono ?_
      intro e w4 hip
      have hn4 := H3.out.drew.step hk4 hip
      obtain ⟨rfl, _⟩ := hip
      have H4 := Lib.hid hn4
      clear hn4
      go_wp2_with fail
      go_roundw
      case rel => exact ⟨k + 1, by omega, by go_num, H4.out⟩
      case measure => simp [intOf]; omega
    · obtain rfl : k = 4 := by omega
      rw [show ((4 : Nat) : Int) = 4 from rfl]
      have HST := Lib.hid hst
      clear hst hix
      obtain ⟨cz, c1, c2, c3⟩ := HST.out.hl
      have HI := Lib.hid (info113.trans (congrArg some c2.symm))
      have HC1 := Lib.hid c1
      have HC2 := Lib.hid c2
      have HC3 := Lib.hid c3
      clear c1 c2 c3
      go_wp2_with (first
        | ((with_reducible show wpList _ _ _ (⟨_, .load 113 (.tmp 1), _, _, _, _⟩ :: _) _ _); refine wpList_load_row rfl 113 (.tmp 1) rfl (B + 1) rfl 113 cz (0, 0) _ HC1.out Tryd.underlying113 rfl HI.out ?_)
        | ((with_reducible show wpList _ _ _ (⟨none, .store 113 (.tmp 0) (.tmp 14), _, _, _, _⟩ :: _) _ _); refine wpList_store_row rfl 113 (.tmp 0) (.tmp 14) rfl B cz rfl rfl 113 z113 HST.out.hr HI.out (HZ2.out.trans HC2.out.symm) ?_ ?_))
      · rw [Array.all_eq_true]
        intro q hq
        obtain ⟨L, l1, _, _⟩ := HC3.out q (by have := HC2.out; omega)
        rw [Array.getElem?_eq_getElem hq, Option.some.injEq] at l1
        rw [l1]
        rfl
      · refine bodyPost_ret (v := .agg cz) (results_cell_row rfl _ _ B 113 cz (0, 0) _ rfl (setRow_heap _ _ _ _ _ _ HST.out.hr) Tryd.underlying113 rfl HI.out) rfl ⟨cz, rfl, HC2.out, ?_, fun t ht => ?_⟩
        · exact Below_setRow HST.out.bw HST.out.hB.1 _
        · obtain ⟨L, l1, l2, l3⟩ := HC3.out t ht
          refine ⟨L, l1, by have := HST.out.hB; omega, ?_⟩
          unfold ArrU
          rw [setRow_other _ _ _ _ (by omega)]
          exact l3
end Go.Proofs.YtlibflbpajeeeaaDoor

namespace Go.Proofs.YtlibflbpajeeeaaDoor
open Go.RowKit

/-! A row of cells read from inside a block. -/
section
variable {P : Program}
theorem run_loadVar_at (w : World) (g o : Nat) (ty : TypeId) (cs : Array Value) (d : TypeDesc) (hg : ∀ j v, cs[j]? = some v → w.cell? ⟨g, o + j, none⟩ = some v)
    (hu : P.underlying ty = some d) (hd : (match d with | .struct _ | .array _ _ => true | _ => false) = true) (hi : (P.info? ty).map (·.size) = some cs.size) :
    (loadVar ty ⟨g, o, none⟩).run P w = .ok (.agg cs) w := by
  have hl : (loadCells ⟨g, o, none⟩ cs.toList.length).run P w = .ok cs.toList.toArray w :=
    run_loadCells_list (P := P) w ⟨g, o, none⟩ cs.toList (fun j v hv => by
      rw [Addr.add_lit]
      exact hg j v (by simpa using hv))
  cases hq : P.info? ty with
  | none => simp [hq] at hi
  | some i =>
    have hs : i.size = cs.size := by simpa [hq] using hi
    have hagg : (isAgg ty).run P w = .ok true w := by
      unfold isAgg
      rw [Sem.run_bind, run_underlying hu w]
      cases d <;> simp_all
    simp only [Array.length_toList, Array.toArray_toList] at hl
    simp [loadVar, Sem.run_bind, hagg, sizeOf, typeInfo, hq, hs, hl]
theorem wpList_load_at {ops : Array Oper} {rest : List Oper} {o : Oper} {a : Act} {w : World} {Q : Exit → Act → World → Prop} (hgd : o.guard = none) (ty : TypeId) (x : Operand) (ho : o.op = .load ty x)
    (g q : Nat) (hx : a.eval x = .pointer (some ⟨g, q, none⟩)) (cs : Array Value) (d : TypeDesc) (hg : ∀ j v, cs[j]? = some v → w.cell? ⟨g, q + j, none⟩ = some v)
    (hu : P.underlying ty = some d) (hd : (match d with | .struct _ | .array _ _ => true | _ => false) = true) (hi : (P.info? ty).map (·.size) = some cs.size)
    (h : wpList P ops Q rest (a.put o.dst (.agg cs)) w) : wpList P ops Q (o :: rest) a w :=
  wpList_plain hgd fun K hK => by
    unfold Oper.wp execOp
    simp only [ho, hx, Instr.loadAt, Instr.sureAddr, Sem.run_bind, Sem.run_pure, Result.andThen_ok, run_loadVar_at w g q ty cs d hg hu hd hi]
    exact hK _ _ h
end

theorem zero134_size : (((Tryd.prog.info? 134).bind (·.zero)).getD undef).cells.size = 68 := by kernel_rfl
theorem specR_at : ∀ t, t < 4 → ∀ i, i < 17 → ∀ b, (specC b)[17 * t + i]? = (specR t b)[i]? := by
  intro t ht i hi b
  have l0 : (specRow 0 b).length = 17 := rfl
  have l1 : (specRow 1 (b + 1)).length = 17 := rfl
  have l2 : (specRow 2 (b + 2)).length = 17 := rfl
  have l3 : (specRow 3 (b + 3)).length = 17 := rfl
  unfold specC specR
  rw [List.getElem?_toArray, List.getElem?_toArray]
  match t, ht with
  | 0, _ =>
    rw [List.getElem?_append_left (by simp [l0, l1, l2]; omega), List.getElem?_append_left (by simp [l0, l1]; omega), List.getElem?_append_left (by omega), show 17 * 0 + i = i by omega]
    rfl
  | 1, _ =>
    rw [List.getElem?_append_left (by simp [l0, l1, l2]; omega), List.getElem?_append_left (by simp [l0, l1]; omega), List.getElem?_append_right (by omega), l0, show 17 * 1 + i - 17 = i by omega]
  | 2, _ =>
    rw [List.getElem?_append_left (by simp [l0, l1, l2]; omega), List.getElem?_append_right (by simp [l0, l1]), List.length_append, l0, l1, show 17 * 2 + i - (17 + 17) = i by omega]
  | 3, _ =>
    rw [List.getElem?_append_right (by simp [l0, l1, l2]), List.length_append, List.length_append, l0, l1, l2, show 17 * 3 + i - (17 + 17 + 17) = i by omega]
theorem specR_counts (t b j : Nat) (ht : t < 4) (hj : j < 16) : (specR t b)[j]? = ((cntL t).map u8v)[j]? := by
  have hl := (std_total t ht).2.2.2
  unfold specR specRow
  rw [List.getElem?_toArray, List.getElem?_append_left (by rw [List.length_map]; omega)]
theorem hufL_len (t : Nat) (ht : t < 4) : (hufL t).length = 17 + (sgL t).length := by
  have hl := (std_total t ht).2.2.2
  simp [hufL, hl]; omega
theorem dhtN_len_succ (t : Nat) (ht : t < 4) : (dhtN (t + 1)).length = (dhtN t).length + (17 + (sgL t).length) := by
  rw [dhtN, List.length_append, hufL_len t ht]
theorem dhtN_len_le (t : Nat) (ht : t ≤ 4) : (dhtN t).length ≤ 416 := by
  obtain ⟨a, b, c, d⟩ := dht_len
  match t, ht with
  | 0, _ => simp [dhtN]
  | 1, _ => omega
  | 2, _ => omega
  | 3, _ => omega
  | 4, _ => omega
theorem tb_idx0 (w : World) : (Instr.index 9 (.string ⟨#[0, 16, 1, 17]⟩) (.int .i64 ((0 : Nat) : Int))).run Tryd.prog w = .ok (.int .u8 (tbB 0)) w := by kernel_rfl
theorem tb_idx1 (w : World) : (Instr.index 9 (.string ⟨#[0, 16, 1, 17]⟩) (.int .i64 ((1 : Nat) : Int))).run Tryd.prog w = .ok (.int .u8 (tbB 1)) w := by kernel_rfl
theorem tb_idx2 (w : World) : (Instr.index 9 (.string ⟨#[0, 16, 1, 17]⟩) (.int .i64 ((2 : Nat) : Int))).run Tryd.prog w = .ok (.int .u8 (tbB 2)) w := by kernel_rfl
theorem tb_idx3 (w : World) : (Instr.index 9 (.string ⟨#[0, 16, 1, 17]⟩) (.int .i64 ((3 : Nat) : Int))).run Tryd.prog w = .ok (.int .u8 (tbB 3)) w := by kernel_rfl
theorem tb_idx (t : Nat) (ht : t < 4) (w : World) : (Instr.index 9 (.string ⟨#[0, 16, 1, 17]⟩) (.int .i64 (t : Int))).run Tryd.prog w = .ok (.int .u8 (tbB t)) w := by
  match t, ht with
  | 0, _ => exact tb_idx0 w
  | 1, _ => exact tb_idx1 w
  | 2, _ => exact tb_idx2 w
  | 3, _ => exact tb_idx3 w

theorem lt_of_heap {w : World} {q : Nat} {x : Obj} (hq : w.heap[q]? = some x) : q < w.heap.size := by
  rcases Nat.lt_or_ge q w.heap.size with h | h
  · exact h
  · rw [Array.getElem?_eq_none h] at hq; cases hq

/-- The specs at block S with signs from block b on; what has been written so far. -/
structure DhRel (w : World) (E Z : Nat) (v : Value) (S b : Nat) (v' : Value) (s' : St) (wr : World) : Prop where
  e : EncAt wr E Z v' s'
  k : EncStep E Z v v' w wr
  sp : wr.heap[S]? = some (.cells (specC b) 134 (0, 0))
  rows : ∀ t, t < 4 → RowAt wr 5 (.slice (some ⟨b + t, 0, none⟩) (sgL t).length (sgL t).length) ((sgL t).map u8v)
  lo : w.heap.size ≤ S ∧ w.heap.size ≤ b
  nv : ∀ g, v'.ownBlock = some g → g ≠ S ∧ ∀ t, t < 4 → g ≠ b + t
  hE : E < w.heap.size ∧ Z < w.heap.size
theorem DhRel.alloc {w wr : World} {E Z : Nat} {v v' : Value} {S b : Nat} {s' : St} (h : DhRel w E Z v S b v' s' wr) (o : Obj) : DhRel w E Z v S b v' s' (wr.alloc o) :=
  ⟨h.e.alloc o, h.k.trans (EncStep.alloc E Z v' wr o h.e.ltE), by rw [heap_alloc_old _ _ (lt_of_heap h.sp)]; exact h.sp, fun t ht => (h.rows t ht).alloc o, h.lo, h.nv, h.hE⟩
theorem DhRel.drew {w wr : World} {E Z : Nat} {v v' : Value} {S b : Nat} {s' : St} (h : DhRel w E Z v S b v' s' wr) : DhRel w E Z v S b v' s' wr.drew :=
  ⟨h.e.drew 1, h.k.trans (EncStep.drew E Z v' wr 1), h.sp, fun t ht => (h.rows t ht).drew1, h.lo, h.nv, h.hE⟩
theorem DhRel.wrote {w wr w' : World} {E Z : Nat} {v v' v'' : Value} {S b : Nat} {s' s'' : St} (h : DhRel w E Z v S b v' s' wr) (he : EncAt w' E Z v'' s'') (hk : EncStep E Z v' v'' wr w') : DhRel w E Z v S b v'' s'' w' := by
  obtain ⟨l1, l2⟩ := h.lo
  obtain ⟨e1, e2⟩ := h.hE
  have own : ∀ g, v'.ownBlock = some g → g ≠ S ∧ ∀ t, t < 4 → g ≠ b + t := h.nv
  have hS := lt_of_heap h.sp
  have hrow : ∀ t, t < 4 → b + t < wr.heap.size := fun t ht => (h.rows t ht).lt rfl
  refine ⟨he, h.k.trans hk, ?_, fun t ht => ?_, h.lo, fun g hg => ?_, h.hE⟩
  · rw [hk.k.block S hS (by simp; omega) (fun e => (own S e).1 rfl)]
    exact h.sp
  · refine (h.rows t ht).same fun g hg => ?_
    simp [Value.ownBlock] at hg
    subst hg
    exact hk.k.block _ (hrow t ht) (by simp; omega) (fun e => (own _ e).2 t ht rfl)
  · rcases hk.k.own g hg with h1 | h1
    · exact own g h1
    · exact ⟨by omega, fun t ht => by have := hrow t ht; omega⟩
/-- A block of our own is kept while the encoder writes. -/
theorem DhRel.box {w wr w' : World} {E Z : Nat} {v v' v'' : Value} {S b : Nat} {s' : St} (h : DhRel w E Z v S b v' s' wr) (hk : EncStep E Z v' v'' wr w') {X : Nat} {o : Obj} (hX : wr.heap[X]? = some o) (h1 : w.heap.size ≤ X) (h2 : v'.ownBlock ≠ some X) : w'.heap[X]? = some o ∧ v''.ownBlock ≠ some X := by
  obtain ⟨e1, e2⟩ := h.hE
  refine ⟨by rw [hk.k.block X (lt_of_heap hX) (by simp; omega) h2]; exact hX, fun e => ?_⟩
  rcases hk.k.own X e with h3 | h3
  · exact h2 h3
  · have := lt_of_heap hX; omega
theorem DhRel.start {w w1 : World} {E Z : Nat} {v : Value} {s : St} (h : EncAt w E Z v s) (b : Nat) (hb : Below w.heap.size w w1) (hlo : w.heap.size ≤ b) (hrows : ∀ t, t < 4 → RowAt w1 5 (.slice (some ⟨b + t, 0, none⟩) (sgL t).length (sgL t).length) ((sgL t).map u8v)) :
    DhRel w E Z v w1.heap.size b v s (w1.alloc (.cells (specC b) 134)) := by
  have hE := h.ltE
  have hZ := h.ltZ
  have kB : Keeps [E, Z] v v w w1 := ⟨hb.os, hb.tape, hb.output, hb.size, fun k hk _ _ => hb.block k hk, fun _ h => .inl h⟩
  have c : ∀ j, w1.cell? ⟨E, j, none⟩ = w.cell? ⟨E, j, none⟩ := fun j => hb.cell (p := ⟨E, j, none⟩) hE
  have f : ∀ j, w1.frozen? ⟨E, j, none⟩ = w.frozen? ⟨E, j, none⟩ := fun j => hb.frozen (p := ⟨E, j, none⟩) hE
  have hstep : EncStep E Z v v w w1 := ⟨kB, fun j _ => c j, f⟩
  have hz : ZAt w1 Z v s.out := ⟨(hb.cell (p := ⟨Z, 0, none⟩) hZ).trans h.z.zc, (hb.frozen (p := ⟨Z, 0, none⟩) hZ).trans h.z.zf, h.z.row.same fun g hg => hb.block g (h.z.row.lt hg), h.z.ne⟩
  have he : EncAt w1 E Z v s := ⟨(c 0).trans h.w0, (c 1).trans h.er, fun j hj => by obtain ⟨x, hx⟩ := h.bu j hj; exact ⟨x, (c _).trans hx⟩, (c 18).trans h.bi, (c 19).trans h.nb, fun j hj => (f j).trans (h.fr j hj), hz, h.ok, h.ne, h.vE⟩
  refine ⟨he.alloc _, hstep.trans (EncStep.alloc E Z v w1 _ he.ltE), heap_alloc_new _ _, fun t ht => (hrows t ht).alloc _, ⟨hb.size, hlo⟩, fun g hg => ?_, ⟨hE, hZ⟩⟩
  have hg := h.z.row.lt hg
  have := hb.size
  exact ⟨by omega, fun t ht => by omega⟩
end Go.Proofs.YtlibflbpajeeeaaDoor

namespace Go.Proofs.YtlibflbpajeeeaaDoor
open Go.RowKit

def rectC (wd ht : Nat) : Array Value := #[.int .i64 0, .int .i64 0, .int .i64 wd, .int .i64 ht]

set_option maxRecDepth 100000 in
theorem dx_any (w : World) (wd ht : Nat) (h : wd ≤ 1000 ∧ ht ≤ 1000) : Calls Tryd.prog 37 #[.agg (rectC wd ht)] w fun e w' => e = .returned (.int .i64 wd) ∧ w' = w.alloc (.cells (rectC wd ht) 88) := by
  obtain ⟨h1, h2⟩ := h
  unfold rectC
  go_enter Tryd.func37, Tryd.ntmps37
  go_wp2_with fail
  go_ret
  exact ⟨rfl, rfl⟩
set_option maxRecDepth 100000 in
theorem dy_any (w : World) (wd ht : Nat) (h : wd ≤ 1000 ∧ ht ≤ 1000) : Calls Tryd.prog 38 #[.agg (rectC wd ht)] w fun e w' => e = .returned (.int .i64 ht) ∧ w' = w.alloc (.cells (rectC wd ht) 88) := by
  obtain ⟨h1, h2⟩ := h
  unfold rectC
  go_enter Tryd.func38, Tryd.ntmps38
  go_wp2_with fail
  go_ret
  exact ⟨rfl, rfl⟩

theorem past1 {w1 : World} {M j : Nat} {x : Value} (h : w1.cell? ⟨M, j, none⟩ = some x) : ∀ A, (w1.alloc A).cell? ⟨M, j, none⟩ = some x := by
  intro A
  have hM : M < w1.heap.size := World.block_lt_of_cell? w1 _ h
  rw [World.cell?_alloc_past _ _ _ hM]
  exact h

theorem optNil1 (W : World) : (eqGuard .neq 50 (.tmp 30) (.const (.pointer none)) (.pointer none) (.pointer none)).run Tryd.prog W = .ok () W := by kernel_rfl
theorem optNil2 (W : World) : (binOp .neq 50 (.pointer none) (.pointer none)).run Tryd.prog W = .ok (.bool false) W := by kernel_rfl
theorem optSome1 (O : Nat) (W : World) : (eqGuard .neq 50 (.tmp 30) (.const (.pointer none)) (.pointer (some ⟨O, 0, none⟩)) (.pointer none)).run Tryd.prog W = .ok () W := by kernel_rfl
theorem optSome2 (O : Nat) (W : World) : (binOp .neq 50 (.pointer (some ⟨O, 0, none⟩)) (.pointer none)).run Tryd.prog W = .ok (.bool true) W := by kernel_rfl

set_option maxRecDepth 100000 in
theorem rsize_any (w : World) (wd ht : Nat) (h : wd ≤ 1000 ∧ ht ≤ 1000) : Calls Tryd.prog 44 #[.agg (rectC wd ht)] w fun e w' => e = .returned (.agg #[.int .i64 wd, .int .i64 ht]) ∧ Below w.heap.size w w' := by
  obtain ⟨h1, h2⟩ := h
  unfold rectC
  go_enter Tryd.func44, Tryd.ntmps44
  go_wp2_with fail
  refine bodyPost_ret (v := .agg #[.int .i64 wd, .int .i64 ht]) (results_cell_row rfl _ _ (w.heap.size + 1) 86 #[.int .i64 wd, .int .i64 ht] (0, 0) _ rfl (by
    have := heap_alloc_new (w.alloc (.cells #[.int .i64 0, .int .i64 0, .int .i64 wd, .int .i64 ht] 88)) (.cells #[.int .i64 wd, .int .i64 ht] 86)
    simpa using this) Tryd.underlying86 rfl (by kernel_rfl)) rfl ?_
  exact ⟨rfl, ((Below.refl _ _).alloc (Nat.le_refl _) _).alloc (by simp) _⟩

theorem EncAt.below {w w' : World} {E Z : Nat} {v : Value} {s : St} (h : EncAt w E Z v s) (hb : Below w.heap.size w w') : EncAt w' E Z v s ∧ EncStep E Z v v w w' := by
  have hE := h.ltE
  have hZ := h.ltZ
  have kB : Keeps [E, Z] v v w w' := ⟨hb.os, hb.tape, hb.output, hb.size, fun k hk _ _ => hb.block k hk, fun _ h => .inl h⟩
  have c : ∀ j, w'.cell? ⟨E, j, none⟩ = w.cell? ⟨E, j, none⟩ := fun j => hb.cell (p := ⟨E, j, none⟩) hE
  have f : ∀ j, w'.frozen? ⟨E, j, none⟩ = w.frozen? ⟨E, j, none⟩ := fun j => hb.frozen (p := ⟨E, j, none⟩) hE
  have hz : ZAt w' Z v s.out := ⟨(hb.cell (p := ⟨Z, 0, none⟩) hZ).trans h.z.zc, (hb.frozen (p := ⟨Z, 0, none⟩) hZ).trans h.z.zf, h.z.row.same fun g hg => hb.block g (h.z.row.lt hg), h.z.ne⟩
  exact ⟨⟨(c 0).trans h.w0, (c 1).trans h.er, fun j hj => by obtain ⟨x, hx⟩ := h.bu j hj; exact ⟨x, (c _).trans hx⟩, (c 18).trans h.bi, (c 19).trans h.nb, fun j hj => (f j).trans (h.fr j hj), hz, h.ok, h.ne, h.vE⟩, kB, fun j _ => c j, f⟩

/-! Fewer than eight bits stand over. -/
theorem sym_okk {s : St} (h : s.Ok) (t c : Nat) (x : Int) (k : Nat) : (sym s t c x k).Ok := pushBits_ok _ (huff_ok h t c) _
theorem zrl_okk (t : Nat) {s : St} (h : s.Ok) : ∀ j, (zrl t s j).Ok := by
  intro j
  induction j with
  | zero => exact h
  | succ j ih => exact huff_ok ih t 240
theorem acs_okk (t : Nat) (f : Nat → Int) {s : St} (h : s.Ok) : ∀ k, (acs t f s k).1.Ok := by
  intro k
  induction k with
  | zero => exact h
  | succ k ih =>
    unfold acs acStep
    split
    · exact ih
    · exact sym_okk (zrl_okk t ih _) _ _ _ _
theorem block_okk {s : St} (h : s.Ok) (q : Nat) (last : Int) (f : Nat → Int) : (blockOut s q last f).Ok := by
  unfold blockOut
  simp only
  split
  · exact huff_ok (acs_okk _ _ (sym_okk h _ _ _ _) _) _ _
  · exact acs_okk _ _ (sym_okk h _ _ _ _) _
theorem putB1 (Q : Nat → Nat → Int) (q : Nat) (d : Array Int) (a : Sc) : putBlk Q 1 q d a = ⟨blockOut a.s q a.l1 (quantd (Q q) d), a.l0, quantd (Q q) d 0, a.l2⟩ := rfl
theorem putB2 (Q : Nat → Nat → Int) (c q : Nat) (d : Array Int) (a : Sc) : putBlk Q (c + 2) q d a = ⟨blockOut a.s q a.l2 (quantd (Q q) d), a.l0, a.l1, quantd (Q q) d 0⟩ := rfl
theorem put_s (Q : Nat → Nat → Int) (c q : Nat) (d : Array Int) (a : Sc) : ∃ l, (putBlk Q c q d a).s = blockOut a.s q l (quantd (Q q) d) := by
  match c with
  | 0 => exact ⟨a.l0, by rw [putBlk0]⟩
  | 1 => exact ⟨a.l1, by rw [putB1]⟩
  | _ + 2 => exact ⟨a.l2, by rw [putB2]⟩
theorem put_okk (Q : Nat → Nat → Int) (c q : Nat) (d : Array Int) {a : Sc} (h : a.s.Ok) : (putBlk Q c q d a).s.Ok := by
  obtain ⟨l, e⟩ := put_s Q c q d a
  rw [e]
  generalize quantd (Q q) d = f
  exact block_okk h q l f
theorem iter_okk (f : Nat → Sc → Sc) (hf : ∀ n a, a.s.Ok → (f n a).s.Ok) : ∀ n a, a.s.Ok → (iter f n a).s.Ok := by
  intro n
  induction n with
  | zero => intro a h; exact h
  | succ n ih => intro a h; exact hf n _ (ih a h)
theorem scan_okk (step wd ht : Nat) (g : Nat → Nat → Sc → Sc) (hg : ∀ x y a, a.s.Ok → (g x y a).s.Ok) (a : Sc) (h : a.s.Ok) : (scanOf step wd ht g a).s.Ok :=
  iter_okk _ (fun _ a h => iter_okk _ (fun _ a h => hg _ _ a h) _ a h) _ a h
theorem bits_okk (gray : Bool) (q : Int) (f0 f1 f2 : Nat → Nat → Int) (wd ht : Nat) : (bitsOf gray q f0 f1 f2 wd ht).Ok := by
  refine scan_okk _ wd ht _ (fun x y a h => ?_) _ ⟨by show 0 < 8; omega, by show (0 : Int) ≤ 0; omega, by show (0 : Int) < 2 ^ 0; decide⟩
  unfold mcu
  split
  · exact put_okk _ _ _ _ h
  · exact put_okk _ _ _ _ (put_okk _ _ _ _ (iter_okk _ (fun k a h => put_okk _ _ _ _ h) _ a h))

theorem heap_setCells_other (b : Nat) : ∀ (vs : List Value) (o : Nat) (w : World) (k : Nat), k ≠ b → (w.setCells b o vs).heap[k]? = w.heap[k]? := by
  intro vs
  induction vs with
  | nil => intro o w k _; rfl
  | cons x r ih => intro o w k hk; rw [World.setCells, ih _ _ _ hk, heap_set_other _ _ _ _ _ hk]
theorem Below.setCells {B : Nat} {a : World} (b : Nat) (hb : B ≤ b) : ∀ (vs : List Value) (o : Nat) (w : World), Below B a w → Below B a (w.setCells b o vs) := by
  intro vs
  induction vs with
  | nil => intro o w h; exact h
  | cons x r ih => intro o w h; exact ih _ _ (h.setCell (p := ⟨b, o, none⟩) hb x)

/-- The encoder's zero. -/
def enL : List Value := [Value.nilIface, Value.nilIface] ++ (List.replicate 16 (.int .u8 0) ++ ([.int .u32 0, .int .u32 0] ++ (List.replicate 128 (.int .u8 0) ++ List.replicate 4 (.slice none 0 0))))
theorem zero115 : ∀ w, (zeroValue 115).run Tryd.prog w = .ok (.agg enL.toArray) w := by
  intro w
  kernel_rfl
theorem enL_len : enL.length = 152 := by simp [enL]
theorem enL_1 : enL[1]? = some Value.nilIface := rfl
theorem enL_18 : enL[18]? = some (.int .u32 0) := rfl
theorem enL_19 : enL[19]? = some (.int .u32 0) := rfl
theorem enL_buf (j : Nat) (hj : j < 16) : enL[2 + j]? = some (.int .u8 0) := by
  unfold enL
  rw [List.getElem?_append_right (by simp), List.getElem?_append_left (by simp; omega), List.getElem?_replicate, if_pos (by simp; omega)]
theorem enL_q (j : Nat) (hj : j < 128) : enL[20 + j]? = some (.int .u8 0) := by
  unfold enL
  rw [List.getElem?_append_right (by simp; omega), List.getElem?_append_right (by simp; omega), List.getElem?_append_right (by simp; omega), List.getElem?_append_left (by simp; omega), List.getElem?_replicate, if_pos (by simp; omega)]

/-- The encoder is there, nothing is written; n of its tables' numbers are. -/
structure EnRel (w : World) (E Z : Nat) (v : Value) (q : Int) (R wd ht : Nat) (n : Nat) (wr : World) : Prop where
  e : EncAt wr E Z v ⟨[], 0, 0⟩
  qa : ∀ j, j < n → wr.cell? ⟨E, 20 + j, none⟩ = some (.int .u8 (qt q (j / 64) (j % 64)))
  qx : ∀ j, j < 128 → ∃ x, wr.cell? ⟨E, 20 + j, none⟩ = some x
  l : LutAt wr E Z v []
  bw : Below w.heap.size w wr
  hE : w.heap.size ≤ E
  x : wr.heap[R]? = some (.cells (rectC wd ht) 88 (0, 0))
  hR : R ≠ E ∧ w.heap.size ≤ R

theorem EnRel.start {w w3 w4 : World} {Z : Nat} {v : Value} {q : Int} {R wd ht : Nat} {cz : Array Value} {ret : Ending} (hx : w3.heap[R]? = some (.cells (rectC wd ht) 88 (0, 0))) (hR : w.heap.size ≤ R) (hb : Below w.heap.size w w3) (hz : ZAt w Z v [])
    (hret : ret = .returned (.agg cz)) (hl : LutPost (w3.alloc (.cells enL.toArray 115)) ret w4) :
    w4.there w3.heap.size 148 cz.size ∧ cz.size = 4 ∧ cz.all (·.oneCell') = true ∧ (w4.setCells w3.heap.size 148 cz.toList).cell? ⟨w3.heap.size, 0, none⟩ = some Value.nilIface ∧ (w4.setCells w3.heap.size 148 cz.toList).frozen? ⟨w3.heap.size, 0, none⟩ = false ∧ EnRel w w3.heap.size Z v q R wd ht 0 ((w4.setCells w3.heap.size 148 cz.toList).setCell ⟨w3.heap.size, 0, none⟩ (.iface 53 (.pointer (some ⟨Z, 0, none⟩)))) := by
  obtain ⟨cz', e1, e2, e3, e4⟩ := hl
  rw [hret] at e1
  simp only [Ending.returned.injEq, Value.agg.injEq] at e1
  subst e1
  have hEb : w4.heap[w3.heap.size]? = some (.cells enL.toArray 115 (0, 0)) := by
    rw [e3.block _ (by simp)]; exact heap_alloc_new _ _
  have hZ := hz.lt
  have hsz := hb.size
  have hRlt := lt_of_heap hx
  have hx4 : w4.heap[R]? = some (.cells (rectC wd ht) 88 (0, 0)) := by
    rw [e3.block R (by simp; omega), heap_alloc_old _ _ hRlt]; exact hx
  have hc4 : ∀ j, w4.cell? ⟨w3.heap.size, j, none⟩ = enL[j]? := fun j => by
    rw [cell_of_row _ _ _ _ 115 (0, 0) hEb]; simp
  have hf4 : ∀ j, w4.frozen? ⟨w3.heap.size, j, none⟩ = false := fun j => frozen_of_row _ _ _ _ 115 hEb
  have hthere : w4.there w3.heap.size 148 cz.size := fun j hj => by
    refine ⟨?_, hf4 _⟩
    rw [hc4, List.getElem?_eq_getElem (by rw [enL_len]; omega)]
    rfl
  have hall : cz.all (·.oneCell') = true := by
    rw [Array.all_eq_true]
    intro i hi
    obtain ⟨L, l1, _, _⟩ := e4 i (by omega)
    rw [Array.getElem?_eq_getElem hi, Option.some.injEq] at l1
    rw [l1]
    rfl
  obtain ⟨E, hE⟩ : ∃ E, E = w3.heap.size := ⟨_, rfl⟩
  rw [← hE] at hEb hc4 hf4 hthere ⊢
  have e3s := e3.size
  simp only [World.alloc] at e3s
  rw [Array.size_push, ← hE] at e3s
  have hwE : w.heap.size ≤ E := by omega
  have out : ∀ j, j < 148 → (w4.setCells E 148 cz.toList).cell? ⟨E, j, none⟩ = enL[j]? := fun j hj => by
    rw [World.cell?_setCells_out E _ _ _ _ (fun _ _ => .inl hj)]; exact hc4 j
  have fin : ∀ j, 1 ≤ j → j < 148 → ((w4.setCells E 148 cz.toList).setCell ⟨E, 0, none⟩ (.iface 53 (.pointer (some ⟨Z, 0, none⟩)))).cell? ⟨E, j, none⟩ = enL[j]? := fun j h1 hj => by
    rw [World.cell?_setCell_other _ _ _ _ (by intro e; injection e; omega)]; exact out j hj
  have frz : ∀ j, ((w4.setCells E 148 cz.toList).setCell ⟨E, 0, none⟩ (.iface 53 (.pointer (some ⟨Z, 0, none⟩)))).frozen? ⟨E, j, none⟩ = false := fun j => by
    rw [World.frozen?_setCell, World.frozen?_setCells]; exact hf4 j
  have hb4 : Below w.heap.size w w4 := (hb.alloc hb.size (.cells enL.toArray 115)).trans (e3.mono (by simp; omega))
  have hbw : Below w.heap.size w ((w4.setCells E 148 cz.toList).setCell ⟨E, 0, none⟩ (.iface 53 (.pointer (some ⟨Z, 0, none⟩)))) := (Below.setCells E hwE _ _ _ hb4).setCell (p := ⟨E, 0, none⟩) hwE _
  have hown : v.ownBlock ≠ some E := fun e => by have := hz.row.lt e; omega
  have hzz : ZAt ((w4.setCells E 148 cz.toList).setCell ⟨E, 0, none⟩ (.iface 53 (.pointer (some ⟨Z, 0, none⟩)))) Z v [] :=
    ⟨(hbw.cell (p := ⟨Z, 0, none⟩) hZ).trans hz.zc, (hbw.frozen (p := ⟨Z, 0, none⟩) hZ).trans hz.zf, hz.row.same fun g hg => hbw.block g (hz.row.lt hg), hz.ne⟩
  refine ⟨hthere, e2, hall, out 0 (by omega), by rw [World.frozen?_setCells]; exact hf4 0, ⟨⟨?_, ?_, fun j hj => ⟨0, ?_⟩, ?_, ?_, fun j _ => frz j, hzz, ⟨by simp, by simp, by simp⟩, by omega, hown⟩, fun j hj => by omega, fun j hj => ⟨_, (fin _ (by omega) (by omega)).trans (enL_q j hj)⟩, ⟨fun t ht => ?_⟩, hbw, hwE, ?_, by omega, hR⟩⟩
  · exact World.cell?_setCell_same _ _ _ (out 0 (by omega))
  · exact (fin 1 (by omega) (by omega)).trans enL_1
  · exact (fin (2 + j) (by omega) (by omega)).trans (enL_buf j hj)
  · exact (fin 18 (by omega) (by omega)).trans enL_18
  · exact (fin 19 (by omega) (by omega)).trans enL_19
  · obtain ⟨L, l1, l2, l3⟩ := e4 t ht
    simp only [World.alloc] at l2
    rw [Array.size_push, ← hE] at l2
    have hLlt := l3.lt
    refine ⟨L, (lutL t).length, ?_, by omega, by omega, by simp, fun e => by have := hz.row.lt e; omega, ?_, fun s hs => ?_⟩
    · rw [World.cell?_setCell_other _ _ _ _ (by intro e; injection e; omega), World.cell?_setCells_in E cz.toList 148 w4 (fun j hj => (hthere j (by simpa using hj)).1) t (by simp; omega)]
      rw [← l1]
      simp [show t < cz.size by omega]
    · have := hbw.size
      have hsz2 : ∀ (vs : List Value) (o : Nat) (W : World), (W.setCells E o vs).heap.size = W.heap.size := by
        intro vs
        induction vs with
        | nil => intro o W; rfl
        | cons x r ih => intro o W; rw [World.setCells, ih]; simp [World.setCell]
      simp only [World.setCell, Array.size_modify]
      rw [hsz2]; exact hLlt
    · rw [World.cell?_setCell_other _ _ _ _ (by intro e; injection e; omega), World.cell?_setCells_out E _ _ _ _ (fun e _ => by simp at e; omega)]
      exact l3.cell s hs
  · rw [heap_set_other _ _ _ _ _ (by omega), heap_setCells_other _ _ _ _ _ (by omega)]; exact hx4
theorem EnRel.set {w : World} {E Z : Nat} {v : Value} {q : Int} {R wd ht : Nat} {n : Nat} {wr : World} (h : EnRel w E Z v q R wd ht n wr) (hn : n < 128) (x : Int) (hx : x = qt q (n / 64) (n % 64)) : EnRel w E Z v q R wd ht (n + 1) (wr.setCell ⟨E, 20 + n, none⟩ (.int .u8 x)) := by
  have o : ∀ j, j ≠ 20 + n → (wr.setCell ⟨E, 20 + n, none⟩ (.int .u8 x)).cell? ⟨E, j, none⟩ = wr.cell? ⟨E, j, none⟩ := fun j hj => World.cell?_setCell_other _ _ _ _ (by intro e; injection e; omega)
  have he := h.e
  refine ⟨⟨(o 0 (by omega)).trans he.w0, (o 1 (by omega)).trans he.er, fun j hj => by obtain ⟨y, hy⟩ := he.bu j hj; exact ⟨y, (o _ (by omega)).trans hy⟩, (o 18 (by omega)).trans he.bi, (o 19 (by omega)).trans he.nb, fun j hj => by rw [World.frozen?_setCell]; exact he.fr j hj, he.z.setCell _ _ he.ne he.vE, he.ok, he.ne, he.vE⟩, fun j hj => ?_, fun j hj => ?_, ⟨fun t ht => ?_⟩, h.bw.setCell (p := ⟨E, 20 + n, none⟩) h.hE _, h.hE, by rw [heap_set_other _ _ _ _ _ h.hR.1]; exact h.x, h.hR⟩
  · by_cases e : j = n
    · subst e
      obtain ⟨y, hy⟩ := h.qx j hn
      rw [← hx]
      exact World.cell?_setCell_same _ _ _ hy
    · rw [o _ (by omega)]; exact h.qa j (by omega)
  · by_cases e : j = n
    · subst e
      obtain ⟨y, hy⟩ := h.qx j hn
      exact ⟨_, World.cell?_setCell_same _ _ _ hy⟩
    · obtain ⟨y, hy⟩ := h.qx j hj
      exact ⟨y, (o _ (by omega)).trans hy⟩
  · obtain ⟨b, cap, h1, h2, h3, h4, h5, h6, h7⟩ := h.l.l t ht
    exact ⟨b, cap, (o _ (by omega)).trans h1, h2, h3, h4, h5, by simpa [World.setCell] using h6, fun s hs => (World.cell?_setCell_other _ _ _ _ (by intro e; injection e; exact h2 (Eq.symm (by assumption)))).trans (h7 s hs)⟩

/-- The package-level tables the encoder reads. -/
structure Laid (w : World) : Prop where
  un : ∀ n, n < 128 → w.cell? ⟨0, n, none⟩ = some (.int .u8 (baseF (n / 64) (zzAt (n % 64))))
  zig : ∀ j, j < 64 → w.cell? ⟨1, j, none⟩ = some (.int .i64 (zzAt j))
  bc : ∀ j, j < 256 → w.cell? ⟨2, j, none⟩ = some (.int .u8 (szN 8 j))
  lt : 2 < w.heap.size
theorem Laid.below {w w' : World} (h : Laid w) (hb : Below w.heap.size w w') : Laid w' :=
  ⟨fun n hn => (hb.cell (p := ⟨0, n, none⟩) (by show 0 < _; have := h.lt; omega)).trans (h.un n hn), fun j hj => (hb.cell (p := ⟨1, j, none⟩) (by show 1 < _; have := h.lt; omega)).trans (h.zig j hj), fun j hj => (hb.cell (p := ⟨2, j, none⟩) h.lt).trans (h.bc j hj), Nat.lt_of_lt_of_le h.lt hb.size⟩
theorem EnRel.fix {w : World} {E Z : Nat} {v : Value} {q : Int} {R wd ht : Nat} {wr : World} (h : EnRel w E Z v q R wd ht 128 wr) (hL : Laid w) (hZ : 2 < Z) (hv : ∀ g, v.ownBlock = some g → 2 < g) : Fix wr E Z v [] (qt q) := by
  have hl := hL.below h.bw
  have := hL.lt
  have := h.hE
  refine ⟨fun c hc j hj => ?_, h.l, hl.zig, hl.bc, ⟨by omega, hZ, by simp, hl.lt⟩, hv⟩
  have := h.qa (64 * c + j) (by omega)
  rw [show (64 * c + j) / 64 = c by omega, show (64 * c + j) % 64 = j by omega] at this
  exact this
/-- The rest of the walk, seen from before the encoder was made. -/
theorem EncStep.since {E Z : Nat} {v v' : Value} {w w1 w2 : World} (h : Below w.heap.size w w1) (k : EncStep E Z v v' w1 w2) (hE : w.heap.size ≤ E) : Keeps [Z] v v' w w2 := by
  have hs := h.size
  refine ⟨k.k.os.trans h.os, k.k.tape.trans h.tape, k.k.output.trans h.output, Nat.le_trans hs k.k.size, fun i hi hn hv => ?_, fun g hg => ?_⟩
  · rw [k.k.block i (by omega) (by simp at hn ⊢; omega) hv]
    exact h.block i hi
  · rcases k.k.own g hg with h1 | h1
    · exact .inl h1
    · exact .inr (by omega)
end Go.Proofs.YtlibflbpajeeeaaDoor

namespace Go.Proofs.YtlibflbpajeeeaaDoor
open Go.RowKit

def picV (k wd ht rt : Int) (P n cp : Nat) : Array Value := #[.int .i64 k, .int .i64 wd, .int .i64 ht, .int .i64 rt, .slice (some ⟨P, 0, none⟩) n cp]
/-- What picture leaves. -/
def PicRes (T : TypeId) (I : World → Nat → Prop) (u : World) (e : Ending) (w' : World) : Prop := ∃ M, e = .returned (.iface T (.pointer (some ⟨M, 0, none⟩))) ∧ I w' M ∧ Below u.heap.size u w'
/-- The options as they are handed on. -/
def OptOk (told : Bool) (q0 : Int) (u : World) (opt : Value) : Prop := (told = false ∧ opt = .pointer none) ∨ (told = true ∧ ∃ O, opt = .pointer (some ⟨O, 0, none⟩) ∧ u.cell? ⟨O, 0, none⟩ = some (.int .i64 q0))
/-- What jpeg.Encode leaves. -/
def EncRes (Z : Nat) (file : List Int) (u : World) (e : Ending) (w' : World) : Prop := e = .returned Value.nilIface ∧ ∃ v', ZAt w' Z v' file ∧ Keeps [Z] (.slice none 0 0) v' u w'
def ImPost (w : World) (file : List Int) (e : Ending) (w' : World) : Prop := ∃ v, e = .returned (.tuple #[v, .int .i64 0]) ∧ RowAt w' 5 v (file.map u8v) ∧ Below w.heap.size w w' ∧ ∀ g, v.ownBlock = some g → w.heap.size ≤ g

theorem zz_new (w : World) : ZAt (w.alloc (.cells #[.slice none 0 0] 55)) w.heap.size (.slice none 0 0) [] := by
  have h := heap_alloc_new w (.cells #[.slice none 0 0] 55)
  exact ⟨by rw [cell_of_row _ _ _ _ 55 (0, 0) h]; rfl, frozen_of_row _ _ _ _ 55 h, RowAt.nil _ _, by simp [Value.ownBlock]⟩
theorem errNil (W : World) : (binOp .neq 57 Value.nilIface Value.nilIface).run Tryd.prog W = .ok (.bool false) W := by kernel_rfl

theorem im_below {w u0 u w3 : World} {v : Value} {Z : Nat} (hb : Below w.heap.size w u0) (hu : Below u0.heap.size u0 u) (k : Keeps [Z] (.slice none 0 0) v u w3) (hz : u0.heap.size ≤ Z) : Below w.heap.size w w3 := by
  have h := hb.trans (hu.mono hb.size)
  have hs := h.size
  have hs0 := hb.size
  exact ⟨k.os.trans h.os, k.tape.trans h.tape, k.output.trans h.output, Nat.le_trans hs k.size, fun i hi => (k.block i (by omega) (by simp; omega) (by simp [Value.ownBlock])).trans (h.block i hi)⟩
theorem im_own {w u0 u w3 : World} {v : Value} {Z : Nat} (hb : Below w.heap.size w u0) (hu : Below u0.heap.size u0 u) (k : Keeps [Z] (.slice none 0 0) v u w3) : ∀ g, v.ownBlock = some g → w.heap.size ≤ g := fun g hg => by
  have hs := (hb.trans (hu.mono hb.size)).size
  rcases k.own g hg with h | h
  · simp [Value.ownBlock] at h
  · omega

set_option maxRecDepth 100000 in
set_option maxHeartbeats 1000000 in
theorem imEncode_of (w : World) (k wd ht rt : Int) (P n cp : Nat) (T : TypeId) (q0 : Int) (told : Bool) (file : List Int) (I : World → Nat → Prop) (hL : Laid w)
    (hT1 : ∀ M W, (binOp .eql 48 (.iface T (.pointer (some ⟨M, 0, none⟩))) Value.nilIface).run Tryd.prog W = .ok (.bool false) W)
    (hP : ∀ u, Below w.heap.size w u → Calls Tryd.prog 16 #[.agg (picV k wd ht rt P n cp)] u (PicRes T I u))
    (hE : ∀ u0 u Z M opt, I u0 M → Below u0.heap.size u0 u → u0.heap.size ≤ Z → ZAt u Z (.slice none 0 0) [] → Laid u → 2 < Z → OptOk told q0 u opt →
      Calls Tryd.prog 17 #[.iface 53 (.pointer (some ⟨Z, 0, none⟩)), .iface T (.pointer (some ⟨M, 0, none⟩)), opt] u (EncRes Z file u)) :
    Calls Tryd.prog 10 #[.agg (picV k wd ht rt P n cp), .int .i64 q0, .bool told] w (ImPost w file) := by
  have HP := Lib.hid hP
  have HE := Lib.hid hE
  have HL := Lib.hid hL
  have he := errNil
  have hb0 : Below w.heap.size w (w.alloc (.cells (picV k wd ht rt P n cp) 30)) := (Below.refl _ _).alloc (Nat.le_refl _) _
  have HB0 := Lib.hid hb0
  clear hP hE hL hb0
  unfold picV at HP HB0 ⊢
  cases told
  all_goals
    go_enter Tryd.func10, Tryd.ntmps10
    go_wp2_with fail
    refine (HP.out _ HB0.out).mono ?_
    rintro e u0 ⟨M, rfl, hI, hb⟩
    have HI := Lib.hid hI
    have HB := Lib.hid (HB0.out.trans (hb.mono HB0.out.size))
    clear hI hb
    go_wp2_with fail
  · have hu : Below u0.heap.size u0 (u0.alloc (.cells #[.slice none 0 0] 55)) := (Below.refl _ _).alloc (Nat.le_refl _) _
    have HU := Lib.hid hu
    clear hu
    refine (HE.out u0 _ u0.heap.size M _ HI.out HU.out (Nat.le_refl _) (zz_new u0) ((HL.out.below HB.out).below HU.out) (by have := (HL.out.below HB.out).lt; omega) (.inl ⟨rfl, rfl⟩)).mono ?_
    rintro e w3 ⟨rfl, v, hz, hk⟩
    have hc := hz.zc
    have HZ := Lib.hid hz
    have HK := Lib.hid hk
    clear hz hk
    go_wp2_with fail
    go_ret2
    exact ⟨v, rfl, HZ.out.row, im_below HB.out HU.out HK.out (Nat.le_refl _), im_own HB.out HU.out HK.out⟩
  · have hu1 : Below u0.heap.size u0 (u0.alloc (.cells #[.int .i64 q0] 52)) := (Below.refl _ _).alloc (Nat.le_refl _) _
    have hu : Below u0.heap.size u0 ((u0.alloc (.cells #[.int .i64 q0] 52)).alloc (.cells #[.slice none 0 0] 55)) := hu1.alloc hu1.size _
    have ho : ((u0.alloc (.cells #[.int .i64 q0] 52)).alloc (.cells #[.slice none 0 0] 55)).cell? ⟨u0.heap.size, 0, none⟩ = some (.int .i64 q0) := by
      refine past1 ?_ _
      rw [cell_of_row _ _ _ _ 52 (0, 0) (heap_alloc_new _ _)]
      rfl
    have hzn : ZAt ((u0.alloc (.cells #[.int .i64 q0] 52)).alloc (.cells #[.slice none 0 0] 55)) (u0.heap.size + 1) (.slice none 0 0) [] := by
      have := zz_new (u0.alloc (.cells #[.int .i64 q0] 52))
      rwa [show (u0.alloc (.cells #[.int .i64 q0] 52)).heap.size = u0.heap.size + 1 by simp] at this
    have HU := Lib.hid hu
    have HO := Lib.hid ho
    have HZN := Lib.hid hzn
    clear hu1 hu ho hzn
    refine (HE.out u0 _ (u0.heap.size + 1) M _ HI.out HU.out (by omega) HZN.out ((HL.out.below HB.out).below HU.out) (by have := (HL.out.below HB.out).lt; omega) (.inr ⟨rfl, u0.heap.size, rfl, HO.out⟩)).mono ?_
    rintro e w3 ⟨rfl, v, hz, hk⟩
    have hc := hz.zc
    have HZ := Lib.hid hz
    have HK := Lib.hid hk
    clear hz hk
    go_wp2_with fail
    go_ret2
    exact ⟨v, rfl, HZ.out.row, im_below HB.out HU.out HK.out (by omega), im_own HB.out HU.out HK.out⟩
end Go.Proofs.YtlibflbpajeeeaaDoor

namespace Go.Proofs.YtlibflbpajeeeaaDoor
open Go.RowKit

theorem mcu_gray (Q : Nat → Nat → Int) (f0 f1 f2 : Nat → Nat → Int) (wd ht : Nat) : mcu true Q f0 f1 f2 wd ht = mcuGray Q f0 wd ht := by rw [mcu, if_pos rfl]
theorem mcu_color (Q : Nat → Nat → Int) (f0 f1 f2 : Nat → Nat → Int) (wd ht : Nat) : mcu false Q f0 f1 f2 wd ht = mcuColor Q f0 f1 f2 wd ht := by rw [mcu, if_neg (by simp)]
theorem bytes_true (q : Int) (f0 f1 f2 : Nat → Nat → Int) (wd ht : Nat) (s : St) (hs : s = pushBits (scanOf 8 wd ht (mcuGray (qt q) f0 wd ht) ⟨⟨headL true q wd ht, 0, 0⟩, 0, 0, 0⟩).s 127 7) : s.out ++ [255, 217] = fileOf true q f0 f1 f2 wd ht := by
  have h := enc_bytes true q f0 f1 f2 wd ht (headL true q wd ht) rfl (bits_okk true q f0 f1 f2 wd ht).n
  rw [mcu_gray, if_pos rfl, ← hs] at h
  exact h
theorem bytes_false (q : Int) (f0 f1 f2 : Nat → Nat → Int) (wd ht : Nat) (s : St) (hs : s = pushBits (scanOf 16 wd ht (mcuColor (qt q) f0 f1 f2 wd ht) ⟨⟨headL false q wd ht, 0, 0⟩, 0, 0, 0⟩).s 127 7) : s.out ++ [255, 217] = fileOf false q f0 f1 f2 wd ht := by
  have h := enc_bytes false q f0 f1 f2 wd ht (headL false q wd ht) rfl (bits_okk false q f0 f1 f2 wd ht).n
  rw [mcu_color, if_neg (by simp), ← hs] at h
  exact h
theorem head_len (gray : Bool) (q : Int) (wd ht : Nat) : (headL gray q wd ht).length ≤ 1000 := by
  have h1 : (dhtL gray).length ≤ 416 := dhtN_len_le _ (by split <;> omega)
  have h2 : (sofL gray wd ht).length ≤ 15 := by unfold sofL; split <;> simp
  have h3 : (sosL gray).length ≤ 10 := by unfold sosL; split <;> simp
  simp only [headL, segOf, List.length_append, List.length_cons, List.length_nil, dqtL_len]
  omega
theorem len_true (q : Int) (f0 : Nat → Nat → Int) (wd ht : Nat) (hd : wd ≤ 100 ∧ ht ≤ 100) (hf : ∀ x y, 0 ≤ f0 x y ∧ f0 x y ≤ 255) (s : St) (hs : s = pushBits (scanOf 8 wd ht (mcuGray (qt q) f0 wd ht) ⟨⟨headL true q wd ht, 0, 0⟩, 0, 0, 0⟩).s 127 7) : s.out.length ≤ 100000000 := by
  obtain ⟨a0, ha0⟩ : ∃ a0 : Sc, a0 = ⟨⟨headL true q wd ht, 0, 0⟩, 0, 0, 0⟩ := ⟨_, rfl⟩
  have hok : a0.Ok 1000 := by rw [ha0]; exact ⟨⟨by simp, by simp, by simp⟩, head_len true q wd ht⟩
  obtain ⟨g, hg⟩ : ∃ g, g = mcuGray (qt q) f0 wd ht := ⟨_, rfl⟩
  have hgok : ∀ x y a n, a.Ok n → (g x y a).Ok (n + 13000) := fun x y a n h => by
    rw [hg]
    exact putBlk_ok h (by omega) (fun c _ j _ => qt_bd q c j) (blkA_size _) (lumaB_fits _ hf _ _ _ _)
  have hrow := iter_ok (rowOf 8 wd g) 169000 (fun r a n h => (iter_ok _ 13000 (fun c a n h => hgok _ _ a n h) a n h _).mono (by omega)) a0 _ hok ((ht + 8 - 1) / 8)
  have hl := pushBits_len 7 (scanOf 8 wd ht g a0).s 127
  have hn : (scanOf 8 wd ht g a0).s.out.length ≤ 1000 + 169000 * ((ht + 8 - 1) / 8) := hrow.n
  rw [hs, ← ha0, ← hg]
  omega
theorem len_false (q : Int) (f0 f1 f2 : Nat → Nat → Int) (wd ht : Nat) (hd : wd ≤ 100 ∧ ht ≤ 100) (hf : ∀ x y, (0 ≤ f0 x y ∧ f0 x y ≤ 255) ∧ (0 ≤ f1 x y ∧ f1 x y ≤ 255) ∧ (0 ≤ f2 x y ∧ f2 x y ≤ 255)) (s : St) (hs : s = pushBits (scanOf 16 wd ht (mcuColor (qt q) f0 f1 f2 wd ht) ⟨⟨headL false q wd ht, 0, 0⟩, 0, 0, 0⟩).s 127 7) : s.out.length ≤ 100000000 := by
  obtain ⟨a0, ha0⟩ : ∃ a0 : Sc, a0 = ⟨⟨headL false q wd ht, 0, 0⟩, 0, 0, 0⟩ := ⟨_, rfl⟩
  have hok : a0.Ok 1000 := by rw [ha0]; exact ⟨⟨by simp, by simp, by simp⟩, head_len false q wd ht⟩
  have hQ : ∀ c, c < 2 → ∀ j, j < 64 → 1 ≤ qt q c j ∧ qt q c j ≤ 255 := fun c _ j _ => qt_bd q c j
  obtain ⟨g, hg⟩ : ∃ g, g = mcuColor (qt q) f0 f1 f2 wd ht := ⟨_, rfl⟩
  have hlok : ∀ x y k a n, a.Ok n → (mcuLuma (qt q) f0 wd ht x y k a).Ok (n + 13000) := fun x y k a n h => putBlk_ok h (by omega) hQ (blkA_size _) (lumaB_fits _ (fun x y => (hf x y).1) _ _ _ _)
  have hc1 : ∀ x y a n, a.Ok n → (putBlk (qt q) 1 1 (smallB f1 wd ht x y) a).Ok (n + 13000) := fun x y a n h => putBlk_ok h (by omega) hQ (smallB_size _ _ _ _ _) (smallB_fits _ (fun x y => (hf x y).2.1) _ _ _ _)
  have hc2 : ∀ x y a n, a.Ok n → (putBlk (qt q) 2 1 (smallB f2 wd ht x y) a).Ok (n + 13000) := fun x y a n h => putBlk_ok h (by omega) hQ (smallB_size _ _ _ _ _) (smallB_fits _ (fun x y => (hf x y).2.2) _ _ _ _)
  have hgok : ∀ x y a n, a.Ok n → (g x y a).Ok (n + 78000) := fun x y a n h => by
    rw [hg]
    exact (hc2 _ _ _ _ (hc1 _ _ _ _ (iter_ok _ 13000 (fun k a n h => hlok _ _ k a n h) a n h 4))).mono (by omega)
  have hrow := iter_ok (rowOf 16 wd g) 546000 (fun r a n h => (iter_ok _ 78000 (fun c a n h => hgok _ _ a n h) a n h _).mono (by omega)) a0 _ hok ((ht + 16 - 1) / 16)
  have hl := pushBits_len 7 (scanOf 16 wd ht g a0).s 127
  have hn : (scanOf 16 wd ht g a0).s.out.length ≤ 1000 + 546000 * ((ht + 16 - 1) / 16) := hrow.n
  rw [hs, ← ha0, ← hg]
  omega
theorem put_len (s : St) (xs : List Int) : (s.put xs).out.length = s.out.length + xs.length := by simp [St.put]
theorem segOf_len (m : Int) (xs : List Int) : (segOf m xs).length = xs.length + 4 := by simp [segOf]
theorem pre7 (s0 : St) (h0 : s0.out.length = 0) (q : Int) : ((s0.put [255, 216]).put (segOf 219 (dqtL q))).out.length ≤ 1000 := by
  rw [put_len, put_len, segOf_len, dqtL_len, h0]
  decide
theorem sofL_le (gray : Bool) (wd ht : Nat) : (sofL gray wd ht).length ≤ 15 := by unfold sofL; split <;> simp
theorem dhtL_le (gray : Bool) : (dhtL gray).length ≤ 416 := dhtN_len_le _ (by split <;> omega)
theorem pre9 (gray : Bool) (s0 : St) (h0 : s0.out.length = 0) (q : Int) (wd ht : Nat) : (((s0.put [255, 216]).put (segOf 219 (dqtL q))).put (segOf 192 (sofL gray wd ht))).out.length ≤ 2000 := by
  have h1 := pre7 s0 h0 q
  have h2 := sofL_le gray wd ht
  rw [put_len, segOf_len]
  generalize ((s0.put [255, 216]).put (segOf 219 (dqtL q))).out.length = a at *
  generalize (sofL gray wd ht).length = b at *
  omega
theorem pre10 (gray : Bool) (s0 : St) (h0 : s0.out.length = 0) (q : Int) (wd ht : Nat) : ((((s0.put [255, 216]).put (segOf 219 (dqtL q))).put (segOf 192 (sofL gray wd ht))).put (segOf 196 (dhtL gray))).out.length ≤ 3000 := by
  have h1 := pre9 gray s0 h0 q wd ht
  have h2 := dhtL_le gray
  rw [put_len, segOf_len]
  generalize (((s0.put [255, 216]).put (segOf 219 (dqtL q))).put (segOf 192 (sofL gray wd ht))).out.length = a at *
  generalize (dhtL gray).length = b at *
  omega
theorem head_put (gray : Bool) (s0 : St) (h0 : s0 = ⟨[], 0, 0⟩) (q : Int) (wd ht : Nat) (xs : List Int) (hx : xs = segOf 218 (sosL gray)) : ((((s0.put [255, 216]).put (segOf 219 (dqtL q))).put (segOf 192 (sofL gray wd ht))).put (segOf 196 (dhtL gray))).put xs = ⟨headL gray q wd ht, 0, 0⟩ := by
  rw [put_put, put_put, put_put, put_put, h0, hx]
  unfold St.put headL
  generalize segOf 219 (dqtL q) = a
  generalize segOf 192 (sofL gray wd ht) = b
  generalize segOf 196 (dhtL gray) = c
  generalize segOf 218 (sosL gray) = d
  simp
theorem sos_true : sosY = segOf 218 (sosL true) := by decide
theorem sos_false : sosC = segOf 218 (sosL false) := by decide
end Go.Proofs.YtlibflbpajeeeaaDoor

namespace Go.Proofs.YtlibflbpajeeeaaDoor
open Go.RowKit

set_option maxRecDepth 100000 in
set_option maxHeartbeats 2000000 in
theorem dhtGray_any (w : World) (E Z : Nat) (v : Value) (s : St) (h : EncAt w E Z v s) (hl : s.out.length ≤ 100000) :
    Calls Tryd.prog 45 #[.pointer (some ⟨E, 0, none⟩), .int .i64 1] w (Wrote E Z v w (s.put (segOf 196 (dhtL true)))) := by
  have hz134 := zero134
  have hz134s := zero134_size
  generalize (((Tryd.prog.info? 134).bind (·.zero)).getD undef).cells = z134 at hz134 hz134s
  have hz133 := zero133
  have hz133s := zero133_size
  generalize zero133c = z133 at hz133 hz133s
  have HZ3 := Lib.hid hz133s
  have HZ4 := Lib.hid hz134s
  have H := Lib.hid h
  clear hz133s hz134s h
  go_enter Tryd.func45, Tryd.ntmps45
  go_wp2_with fail
  refine (spec_any w).mono ?_
  rintro e w1 ⟨rfl, hb, hrows⟩
  have HB := Lib.hid hb
  have HR := Lib.hid hrows
  clear hb hrows
  obtain ⟨b, hbb⟩ : ∃ b, b = w.heap.size + 1 := ⟨_, rfl⟩
  rw [← hbb] at HR
  rw [← hbb]
  obtain ⟨sc, hsc⟩ : ∃ sc, sc = specC b := ⟨_, rfl⟩
  have HSC := Lib.hid hsc
  have HI := Lib.hid (show (Tryd.prog.info? 134).map (·.size) = some sc.size by rw [hsc, specC_size]; exact info134)
  have HZ := Lib.hid (show z134.size = sc.size by rw [hsc, specC_size]; exact HZ4.out)
  have HON := Lib.hid (show sc.all (·.oneCell') = true by rw [hsc]; exact specC_one b)
  rw [← hsc]
  have HBB := Lib.hid hbb
  clear hsc hbb
  obtain ⟨S, hS⟩ : ∃ S, S = w1.heap.size := ⟨_, rfl⟩
  go_wp2_with (first
    | ((with_reducible show wpList _ _ _ (⟨none, .store 134 (.tmp 5) (.tmp 11), _, _, _, _⟩ :: _) _ _); refine wpList_store_new rfl 134 (.tmp 5) (.tmp 11) rfl w1.heap.size sc rfl rfl _ _ 134 rfl HI.out HZ.out HON.out ?_))
  rw [← hS]
  have hd := DhRel.start H.out b HB.out (by have := HBB.out; omega) HR.out
  rw [← hS, ← HSC.out] at hd
  have HD0 := Lib.hid hd
  clear hd hS
  generalize w1.alloc _ = W2 at HD0 ⊢
  go_loopw [4, 19] (fun mv kv wr => ∃ k : Nat, k ≤ 2 ∧ kv = .int .i64 k ∧ mv = .int .i64 ((2 + (dhtN k).length : Nat) : Int) ∧ DhRel w E Z v S b v s wr) (fun _ kv _ => 2 - (intOf kv).toNat)
  case atStart => exact ⟨0, by omega, rfl, rfl, HD0.out⟩
  case round =>
    obtain ⟨k, hk, rfl, rfl, hst⟩ := hrel
    by_cases hkn : k < 2
    · have hk4 : k < 4 := by omega
      have hsz := specR_size k b hk4
      have hone := specR_one k b hk4
      have hsl := specR_sl k b hk4
      have hcell : ∀ j u, (specR k b)[j]? = some u → wr.cell? ⟨S, k * 17 + j, none⟩ = some u := fun j u hj => by
        have hj17 : j < 17 := by
          rcases Nat.lt_or_ge j 17 with h | h
          · exact h
          · rw [Array.getElem?_eq_none (by omega)] at hj; cases hj
        rw [cell_of_row _ _ _ _ 134 (0, 0) hst.sp, show k * 17 + j = 17 * k + j by omega, specR_at k hk4 j hj17]
        exact hj
      have hbx : ∀ x : World, (x.alloc (.cells (specR k b) 133)).cell? ⟨x.heap.size, 16, none⟩ = some (.slice (some ⟨b + k, 0, none⟩) (sgL k).length (sgL k).length) := fun x => by
        rw [cell_of_row _ _ _ _ 133 (0, 0) (heap_alloc_new _ _)]; exact hsl
      have hln := dhtN_len_succ k hk4
      have hle := dhtN_len_le k (by omega)
      obtain ⟨cs, hcs⟩ : ∃ cs, cs = specR k b := ⟨_, rfl⟩
      rw [← hcs] at hsz hone hcell hbx
      obtain ⟨ls, hls⟩ : ∃ ls, ls = (sgL k).length := ⟨_, rfl⟩
      rw [← hls] at hbx hln
      obtain ⟨ln, hlnn⟩ : ∃ ln, ln = (dhtN k).length := ⟨_, rfl⟩
      rw [← hlnn] at hln hle
      rw [← hlnn]
      have hlsb : ls ≤ 162 := by rw [hls]; exact (std_total k hk4).2.1
      have HI3 := Lib.hid (info133.trans (congrArg some hsz.symm))
      have HZZ := Lib.hid (HZ3.out.trans hsz.symm)
      have HST := Lib.hid hst
      have HO3 := Lib.hid hone
      have HCL := Lib.hid hcell
      have HLN := Lib.hid hln
      have hbx' := hbx wr
      clear hsz hone hsl hcs hst hcell hln hlnn hls hbx
      have hdk : decide ((k : Int) < 2) = true := by simp; omega
      go_wp2_with (first
        | ((with_reducible show wpList _ _ _ (⟨_, .load 133 (.tmp 21), _, _, _, _⟩ :: _) _ _); refine wpList_load_at rfl 133 (.tmp 21) rfl S (k * 17) rfl cs _ HCL.out Tryd.underlying133 rfl HI3.out ?_)
        | ((with_reducible show wpList _ _ _ (⟨none, .store 133 (.tmp 8) (.tmp 22), _, _, _, _⟩ :: _) _ _); refine wpList_store_new rfl 133 (.tmp 8) (.tmp 22) rfl wr.heap.size cs rfl rfl _ _ 133 rfl HI3.out HZZ.out HO3.out ?_))
      go_roundw
      case rel =>
        refine ⟨k + 1, by omega, by go_num, ?_, HST.out.alloc _⟩
        rw [HLN.out]
        go_num
      case measure => simp [intOf]; omega
    · obtain rfl : k = 2 := by omega
      rw [show ((2 : Nat) : Int) = 2 from rfl]
      obtain ⟨w0, rfl⟩ : ∃ w0 : World, w0 = wr := ⟨_, rfl⟩
      have HST := Lib.hid hst
      clear hst
      have hl4 := dhtN_len_le 2 (by omega)
      obtain ⟨ln, hlnn⟩ : ∃ ln, ln = (dhtN 2).length := ⟨_, rfl⟩
      rw [← hlnn] at hl4
      rw [← hlnn]
      have HLL := Lib.hid hlnn
      clear hlnn
      go_wp2_with fail
      refine (marker_any _ E Z v s 196 (2 + ln) HST.out.e (by omega) (by omega)).mono ?_
      rintro e w4 ⟨rfl, v1, h1, k1⟩
      have hd4 := HST.out.wrote h1 k1
      have HD4 := Lib.hid hd4
      clear h1 k1 hd4
      obtain ⟨hdr, hhdr⟩ : ∃ hdr, hdr = [255, 196, ((2 + ln : Nat) : Int) / 256, ((2 + ln : Nat) : Int) % 256] := ⟨_, rfl⟩
      rw [← hhdr] at HD4
      have HH := Lib.hid hhdr
      have hob : ∀ xs : List Int, xs.length ≤ 1000 → (s.put xs).out.length ≤ 100000000 := fun xs hx => by simp [St.put]; omega
      have HOB := Lib.hid hob
      have hhl : hdr.length = 4 := by rw [hhdr]; rfl
      clear hhdr hob
      go_wp2_with fail
      go_loopw [35] (fun kv wr => ∃ (k : Nat) (v' : Value), k ≤ 2 ∧ kv = .int .i64 k ∧ DhRel w E Z v S b v' (s.put (hdr ++ dhtN k)) wr) (fun kv _ => 2 - (intOf kv).toNat)
      case atStart => exact ⟨0, v1, by omega, rfl, by rw [dhtN, List.append_nil]; exact HD4.out⟩
      case round =>
        obtain ⟨k, v2, hk, rfl, hst⟩ := hrel
        by_cases hkn : k < 2
        · have hk4 : k < 4 := by omega
          have hsz := specR_size k b hk4
          have hone := specR_one k b hk4
          have hsl := specR_sl k b hk4
          have hcell : ∀ j u, (specR k b)[j]? = some u → wr.cell? ⟨S, k * 17 + j, none⟩ = some u := fun j u hj => by
            have hj17 : j < 17 := by
              rcases Nat.lt_or_ge j 17 with h | h
              · exact h
              · rw [Array.getElem?_eq_none (by omega)] at hj; cases hj
            rw [cell_of_row _ _ _ _ 134 (0, 0) hst.sp, show k * 17 + j = 17 * k + j by omega, specR_at k hk4 j hj17]
            exact hj
          have hcn : ∀ (j : Nat) u, ((cntL k).map u8v)[j]? = some u → (specR k b)[j]? = some u := fun j u hj => by
            have hl16 := (std_total k hk4).2.2.2
            have hj16 : j < 16 := by
              rcases Nat.lt_or_ge j 16 with h | h
              · exact h
              · rw [List.getElem?_eq_none (by rw [List.length_map]; omega)] at hj; cases hj
            rw [specR_counts k b j hk4 hj16]; exact hj
          obtain ⟨cs, hcs⟩ : ∃ cs, cs = specR k b := ⟨_, rfl⟩
          rw [← hcs] at hsz hone hcell hcn hsl
          have hl16 := (std_total k hk4).2.2.2
          have hlsb := (std_total k hk4).2.1
          have hls0 := (std_total k hk4).2.2.1
          obtain ⟨ls, hls⟩ : ∃ ls, ls = (sgL k).length := ⟨_, rfl⟩
          rw [← hls] at hsl hlsb hls0
          have hix := tb_idx k hk4
          have hdn := dhtN_len_le k (by omega)
          have hsucc : ∀ st : St, (((st.put (hdr ++ dhtN k)).put [tbB k]).put (cntL k)).put (sgL k) = st.put (hdr ++ dhtN (k + 1)) := fun st => by
            rw [put_put, put_put, put_put]
            simp [dhtN, hufL, List.append_assoc]
          have HSU := Lib.hid hsucc
          have HI3 := Lib.hid (info133.trans (congrArg some hsz.symm))
          have HZZ := Lib.hid (HZ3.out.trans hsz.symm)
          have HST2 := Lib.hid hst
          have HO3 := Lib.hid hone
          have HCL := Lib.hid hcell
          have HCN := Lib.hid hcn
          have HLS := Lib.hid hls
          have HL16 := Lib.hid hl16
          have HSL := Lib.hid hsl
          have hdk : decide ((k : Int) < 2) = true := by simp; omega
          have hbx := heap_alloc_new wr (.cells cs 133)
          have hn3 := HST2.out.alloc (.cells cs 133)
          have hXlo : w.heap.size ≤ wr.heap.size := HST2.out.k.k.size
          have hXnv : v2.ownBlock ≠ some wr.heap.size := fun e => by have := HST2.out.e.z.row.lt e; omega
          have HBX := Lib.hid hbx
          have HN3 := Lib.hid hn3
          have HXV := Lib.hid hXnv
          obtain ⟨tb, htb⟩ : ∃ tb, tb = tbB k := ⟨_, rfl⟩
          rw [← htb] at hix HSU
          clear hsz hone hsl hcs hst hcell hcn hls hl16 hsucc hbx hn3 hXnv htb
          go_wp2_with (first
            | ((with_reducible show wpList _ _ _ (⟨_, .load 133 (.tmp 38), _, _, _, _⟩ :: _) _ _); refine wpList_load_at rfl 133 (.tmp 38) rfl S (k * 17) rfl cs _ HCL.out Tryd.underlying133 rfl HI3.out ?_)
            | ((with_reducible show wpList _ _ _ (⟨none, .store 133 (.tmp 10) (.tmp 39), _, _, _, _⟩ :: _) _ _); refine wpList_store_new rfl 133 (.tmp 10) (.tmp 39) rfl wr.heap.size cs rfl rfl _ _ 133 rfl HI3.out HZZ.out HO3.out ?_))
          refine (writeByte_any _ E Z v2 _ tb HN3.out.e (HOB.out _ (by simp; omega))).mono ?_
          rintro e w5 ⟨rfl, v3, h3, k3⟩
          have hd5 := HN3.out.wrote h3 k3
          have hx5 := HN3.out.box k3 HBX.out hXlo HXV.out
          have HD5 := Lib.hid hd5
          have HX5 := Lib.hid hx5
          clear h3 k3 hd5 hx5
          generalize wr.alloc _ = W3 at HBX HN3
          obtain ⟨X, hX⟩ : ∃ X, X = wr.heap.size := ⟨_, rfl⟩
          rw [← hX] at HX5 hXlo
          rw [← hX]
          clear hX HBX HN3 HXV
          go_wp2_with fail
          refine (write_any w5 E Z v3 _ (cntL k) ⟨X, 0, none⟩ 16 16 HD5.out.e (by rw [put_put]; exact HOB.out _ (by simp; omega)) (by omega) (by omega) HL16.out (fun j u hj => ?_)).mono ?_
          · rw [Addr.add_lit, cell_of_row _ _ _ _ 133 (0, 0) HX5.out.1, Nat.zero_add]
            exact HCN.out j u hj
          rintro e w6 ⟨rfl, v4, h4, k4⟩
          have hd6 := HD5.out.wrote h4 k4
          have hx6 := HD5.out.box k4 HX5.out.1 hXlo HX5.out.2
          have hsl6 : w6.cell? ⟨X, 16, none⟩ = some (.slice (some ⟨b + k, 0, none⟩) ls ls) := by
            rw [cell_of_row _ _ _ _ 133 (0, 0) hx6.1]; exact HSL.out
          have HD6 := Lib.hid hd6
          clear h4 k4 hd6 hx6
          go_wp2_with fail
          refine (write_any w6 E Z v4 _ (sgL k) ⟨b + k, 0, none⟩ ls ls HD6.out.e (by rw [put_put, put_put]; exact HOB.out _ (by have := HL16.out; simp; omega)) hls0 (by omega) HLS.out.symm (fun j u hj => ?_)).mono ?_
          · rw [Addr.add_lit, Nat.zero_add]
            have hjl : j < ((sgL k).map u8v).length := by
              rcases Nat.lt_or_ge j ((sgL k).map u8v).length with h | h
              · exact h
              · rw [List.getElem?_eq_none h] at hj; cases hj
            have := (HD6.out.rows k hk4).cell rfl j hjl
            rw [this, ← hj, List.getElem?_eq_getElem hjl]
          rintro e w7 ⟨rfl, v5, h5, k5⟩
          have hd7 := HD6.out.wrote h5 k5
          rw [HSU.out] at hd7
          have HD7 := Lib.hid hd7
          clear h5 k5 hd7
          go_wp2_with fail
          go_roundw
          case rel => exact ⟨k + 1, v5, by omega, by go_num, HD7.out⟩
          case measure => simp [intOf]; omega
        · obtain rfl : k = 2 := by omega
          rw [show ((2 : Nat) : Int) = 2 from rfl]
          have HST2 := Lib.hid hst
          clear hst
          go_wp2_with fail
          go_end0
          have e : hdr ++ dhtN 2 = segOf 196 (dhtL true) := by
            obtain ⟨a1, a2, a3, a4⟩ := dht_len
            have e1 : dhtL true = dhtN 2 := rfl
            rw [HH.out, HLL.out, segOf, e1, a2]
            rfl
          rw [← e]
          exact ⟨rfl, v2, HST2.out.e, HST2.out.k⟩
end Go.Proofs.YtlibflbpajeeeaaDoor
