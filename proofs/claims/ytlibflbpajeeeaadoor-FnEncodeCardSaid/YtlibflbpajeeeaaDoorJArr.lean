/- Blocks of ints by a function. The contract of the reference's zigzag. (Joined by wip/gen/merge.py.) -/
import Derived.Test.YtlibflbpajeeeaaDoorJZz
import Derived.Test.YtlibflbpajeeeaaDoorJBlk
import Derived.Test.YtlibflbpajeeeaaDoorJDiv
namespace Go.Proofs.YtlibflbpajeeeaaDoor
open Go.RowKit

def arrC (n : Nat) (f : Nat → Int) : Array Value := (Array.range n).map fun j => i64v (f j)
def upd (f : Nat → Int) (j : Nat) (x : Int) : Nat → Int := fun i => if i = j then x else f i
theorem arrC_size (n : Nat) (f : Nat → Int) : (arrC n f).size = n := by simp [arrC]
theorem arrC_get (n : Nat) (f : Nat → Int) (j : Nat) (hj : j < n) : (arrC n f)[j]? = some (.int .i64 (f j)) := by
  simp [arrC, hj, i64v]
theorem arrC_congr {n : Nat} {f g : Nat → Int} (h : ∀ j, j < n → f j = g j) : arrC n f = arrC n g := by
  apply Array.ext_getElem?
  intro j
  by_cases hj : j < n
  · rw [arrC_get n f j hj, arrC_get n g j hj, h j hj]
  · rw [Array.getElem?_eq_none (by rw [arrC_size]; omega), Array.getElem?_eq_none (by rw [arrC_size]; omega)]
theorem arrC_set (n : Nat) (f : Nat → Int) (j : Nat) (x : Int) : (arrC n f).setIfInBounds j (.int .i64 x) = arrC n (upd f j x) := by
  apply Array.ext_getElem?
  intro i
  by_cases hi : i < n
  · rw [Array.getElem?_setIfInBounds, arrC_get n f i hi, arrC_get n (upd f j x) i hi]
    unfold upd
    by_cases e : j = i
    · subst e
      rw [if_pos rfl, if_pos rfl, if_pos (by rw [arrC_size]; exact hi)]
    · rw [if_neg e, if_neg (fun h => e h.symm)]
  · rw [Array.getElem?_eq_none (by simp [arrC_size]; omega), Array.getElem?_eq_none (by rw [arrC_size]; omega)]
theorem arrC_one (n : Nat) (f : Nat → Int) : (arrC n f).all (·.oneCell') = true := by
  rw [Array.all_eq_true_iff_forall_mem]
  intro v hv
  unfold arrC at hv
  rw [Array.mem_map] at hv
  obtain ⟨x, _, rfl⟩ := hv
  rfl

/-- Block B holds n ints by f. -/
def ArrAt (w : World) (B : Nat) (t : TypeId) (n : Nat) (f : Nat → Int) : Prop := w.heap[B]? = some (.cells (arrC n f) t (0, 0))
theorem ArrAt.cell {w : World} {B : Nat} {t : TypeId} {n : Nat} {f : Nat → Int} (h : ArrAt w B t n f) (j : Nat) (hj : j < n) : w.cell? ⟨B, j, none⟩ = some (.int .i64 (f j)) := by
  rw [cell_of_row _ _ _ _ t (0, 0) h]; exact arrC_get n f j hj
theorem ArrAt.free {w : World} {B : Nat} {t : TypeId} {n : Nat} {f : Nat → Int} (h : ArrAt w B t n f) (j : Nat) : w.frozen? ⟨B, j, none⟩ = false := frozen_of_row _ _ _ _ t h
theorem ArrAt.set {w : World} {B : Nat} {t : TypeId} {n : Nat} {f : Nat → Int} (h : ArrAt w B t n f) (j : Nat) (x : Int) : ArrAt (w.setCell ⟨B, j, none⟩ (.int .i64 x)) B t n (upd f j x) := by
  unfold ArrAt
  rw [← arrC_set]
  exact heap_setCell_same w B j (arrC n f) t _ h
theorem ArrAt.same {w w' : World} {B : Nat} {t : TypeId} {n : Nat} {f : Nat → Int} (h : ArrAt w B t n f) (hb : w'.heap[B]? = w.heap[B]?) : ArrAt w' B t n f := hb.trans h
theorem ArrAt.congr {w : World} {B : Nat} {t : TypeId} {n : Nat} {f g : Nat → Int} (h : ArrAt w B t n f) (e : ∀ j, j < n → f j = g j) : ArrAt w B t n g := by
  unfold ArrAt; rw [← arrC_congr e]; exact h
theorem ArrAt.lt {w : World} {B : Nat} {t : TypeId} {n : Nat} {f : Nat → Int} (h : ArrAt w B t n f) : B < w.heap.size := by
  rcases Nat.lt_or_ge B w.heap.size with hlt | hge
  · exact hlt
  · unfold ArrAt at h
    rw [Array.getElem?_eq_none hge] at h
    cases h
theorem ArrAt.alloc {w : World} {B : Nat} {t : TypeId} {n : Nat} {f : Nat → Int} (h : ArrAt w B t n f) (o : Obj) : ArrAt (w.alloc o) B t n f := h.same (_root_.Go.heap_alloc_old w o h.lt)
theorem ArrAt.drew {w : World} {B : Nat} {t : TypeId} {n : Nat} {f : Nat → Int} (h : ArrAt w B t n f) (q : Nat) : ArrAt (w.drewN q) B t n f := h
theorem ArrAt.new (w : World) (t : TypeId) (n : Nat) (f : Nat → Int) : ArrAt (w.alloc (.cells (arrC n f) t)) w.heap.size t n f := heap_alloc_new w _
theorem ArrAt.setRow {w : World} {B : Nat} {old : Array Value} {t : TypeId} (h : w.heap[B]? = some (.cells old t (0, 0))) (n : Nat) (f : Nat → Int) : ArrAt (w.setRow B (arrC n f)) B t n f := setRow_heap _ _ _ _ _ _ h

/-- How far f is filled by g. -/
def upto (g : Nat → Int) (d : Int) (k : Nat) : Nat → Int := fun j => if j < k then g j else d
theorem upto_zero (g : Nat → Int) (d : Int) : upto g d 0 = fun _ => d := by funext j; simp [upto]
theorem upto_succ (g : Nat → Int) (d : Int) (k : Nat) : upd (upto g d k) k (g k) = upto g d (k + 1) := by
  funext j
  unfold upd upto
  by_cases e : j = k
  · subst e; rw [if_pos rfl, if_pos (by omega)]
  · rw [if_neg e]
    by_cases h : j < k
    · rw [if_pos h, if_pos (by omega)]
    · rw [if_neg h, if_neg (by omega)]
theorem upto_all (g : Nat → Int) (d : Int) (k j : Nat) (h : j < k) : upto g d k j = g j := by unfold upto; rw [if_pos h]

theorem below_set {B : Nat} {u w : World} (h : Below B u w) (b j : Nat) (hb : B ≤ b) (x : Value) : Below B u (w.setCell ⟨b, j, none⟩ x) := h.setCell hb x
theorem heap_set_other (w : World) (b j k : Nat) (x : Value) (h : k ≠ b) : (w.setCell ⟨b, j, none⟩ x).heap[k]? = w.heap[k]? := Below.heap_setCell w ⟨b, j, none⟩ x k h

end Go.Proofs.YtlibflbpajeeeaaDoor

namespace Go.Proofs.YtlibflbpajeeeaaDoor
open Go.RowKit

theorem size_alloc1 (w : World) (A : Obj) : w.heap.size + 1 = (w.alloc A).heap.size := by simp
theorem info60 : (Tryd.prog.info? 60).map (·.size) = some 64 := by kernel_rfl
theorem zero60 : ∀ w, (zeroValue 60).run Tryd.prog w = .ok (.agg (arrC 64 fun _ => 0)) w :=
  (zero_of_info (P := Tryd.prog) (t := 60) (v := .agg (arrC 64 fun _ => 0)) (n := 64) (by kernel_rfl)).1

/-- The places, one behind the other. -/
def zstep (p : Nat × Nat) : Nat × Nat :=
  if (p.1 + p.2) % 2 = 0 then (if p.1 = 7 then (p.1, p.2 + 1) else if p.2 = 0 then (p.1 + 1, p.2) else (p.1 + 1, p.2 - 1))
  else (if p.2 = 7 then (p.1 + 1, p.2) else if p.1 = 0 then (p.1, p.2 + 1) else (p.1 - 1, p.2 + 1))
def zpos : Nat → Nat × Nat
  | 0 => (0, 0)
  | k + 1 => zstep (zpos k)
theorem zpos_at : ∀ k, k < 64 → zzAt k = 8 * (zpos k).2 + (zpos k).1 ∧ (zpos k).1 < 8 ∧ (zpos k).2 < 8 := by decide +kernel

def ZigRel (w : World) (k : Nat) (xv yv : Value) (wr : World) : Prop :=
  xv = .int .i64 ((zpos k).1 : Nat) ∧ yv = .int .i64 ((zpos k).2 : Nat) ∧ ArrAt wr (w.heap.size + 1) 60 64 (upto (fun j => zzAt j) 0 k) ∧ ArrAt wr w.heap.size 60 64 (fun _ => 0) ∧ Below w.heap.size w wr
theorem zigRel_next {w : World} {k : Nat} {wr : World} {x y : Nat} (hk : k < 64) (hx : x = (zpos k).1) (hy : y = (zpos k).2) (h2 : ArrAt wr (w.heap.size + 1) 60 64 (upto (fun j => zzAt j) 0 k)) (h3 : ArrAt wr w.heap.size 60 64 (fun _ => 0)) (h4 : Below w.heap.size w wr)
    (x' y' : Nat) (hs : zstep (x, y) = (x', y')) : ZigRel w (k + 1) (.int .i64 (x' : Int)) (.int .i64 (y' : Int)) (wr.setCell ⟨w.heap.size + 1, k, none⟩ (.int .i64 (8 * (y : Int) + (x : Int)))) := by
  have hz : zpos (k + 1) = (x', y') := by rw [← hs, hx, hy]; rfl
  have e : 8 * (y : Int) + (x : Int) = (zzAt k : Nat) := by rw [(zpos_at k hk).1, hx, hy]; omega
  refine ⟨by rw [hz], by rw [hz], ?_, ?_, h4.setCell (by show _ ≤ _ + 1; omega) _⟩
  · rw [← upto_succ, ← e]
    exact h2.set k _
  · exact h3.same (Below.heap_setCell _ _ _ _ (by show _ ≠ _ + 1; omega))

set_option maxRecDepth 100000 in
set_option maxHeartbeats 2000000 in
theorem zigzag_any (w : World) :
    Calls Tryd.prog 22 #[] w fun e w' => e = .returned (.agg (arrC 64 fun j => zzAt j)) ∧ Below w.heap.size w w' := by
  have hz := zero60
  obtain ⟨zs, hzs⟩ : ∃ zs, zs = arrC 64 fun _ => 0 := ⟨_, rfl⟩
  rw [← hzs] at hz
  have HS := Lib.hid hzs
  have hsz : zs.size = 64 := by rw [hzs]; exact arrC_size _ _
  have h1 : zs.all (·.oneCell') = true := by rw [hzs]; exact arrC_one _ _
  have H60 := Lib.hid (info60.trans (congrArg some hsz.symm))
  have H1 := Lib.hid h1
  clear hzs hsz h1
  go_enter Tryd.func22, Tryd.ntmps22
  go_wp2_with (refine wpList_store_new rfl 60 (.tmp 1) (.tmp 5) rfl (w.heap.size + 1) zs rfl rfl _ _ 60 (size_alloc1 _ _) H60.out rfl H1.out ?_)
  go_loopw [2, 3, 6] (fun xv yv kv wr => ∃ k : Nat, k ≤ 64 ∧ kv = .int .i64 k ∧ ZigRel w k xv yv wr) (fun _ _ kv _ => 64 - (intOf kv).toNat)
  case atStart =>
    refine ⟨0, by omega, rfl, rfl, rfl, ?_, ?_, ((Below.refl _ _).alloc (Nat.le_refl _) _).alloc (by simp) _⟩
    · rw [upto_zero]
      unfold ArrAt
      rw [← HS.out, size_alloc1 w (.cells zs 60)]
      exact heap_alloc_new _ _
    · unfold ArrAt
      rw [← HS.out, _root_.Go.heap_alloc_old _ _ (by simp)]
      exact heap_alloc_new _ _
  case round =>
    obtain ⟨k, hk, rfl, rfl, rfl, h2, h3, h4⟩ := hrel
    by_cases hk64 : k < 64
    · obtain ⟨-, hx8, hy8⟩ := zpos_at k hk64
      have hcell := h2.cell k hk64
      have hfree := h2.free k
      obtain ⟨x, hx⟩ : ∃ x, x = (zpos k).1 := ⟨_, rfl⟩
      obtain ⟨y, hy⟩ : ∃ y, y = (zpos k).2 := ⟨_, rfl⟩
      rw [← hx] at hx8 ⊢
      rw [← hy] at hy8 ⊢
      obtain ⟨old, hold⟩ : ∃ z, z = upto (fun j => (zzAt j : Int)) 0 k k := ⟨_, rfl⟩
      rw [← hold] at hcell
      have N := Lib.hid (fun x' y' hs => zigRel_next (x := x) (y := y) hk64 hx hy h2 h3 h4 x' y' hs)
      clear h2 h3 h4 hx hy hold
      by_cases hp : (x + y) % 2 = 0
      · have b1 : (((x : Int) + (y : Int)) % 2 == 0) = true := by simp; omega
        by_cases h7 : x = 7
        · have b2 : ((x : Int) == 7) = true := by simp; omega
          have hs : zstep (x, y) = (x, y + 1) := by unfold zstep; rw [if_pos hp, if_pos h7]
          have HSS := Lib.hid hs
          clear hs hp h7
          go_wp2_with fail
          go_roundw
          case rel => exact ⟨k + 1, by omega, by go_num, by have := N.out _ _ HSS.out; push_cast at this; exact this⟩
          case measure => simp [intOf]; omega
        · have b2 : ((x : Int) == 7) = false := by simp; omega
          by_cases h0 : y = 0
          · have b3 : ((y : Int) == 0) = true := by simp; omega
            have hs : zstep (x, y) = (x + 1, y) := by unfold zstep; rw [if_pos hp, if_neg h7, if_pos h0]
            have HSS := Lib.hid hs
            clear hs hp h7 h0
            go_wp2_with fail
            go_roundw
            case rel => exact ⟨k + 1, by omega, by go_num, by have := N.out _ _ HSS.out; push_cast at this; exact this⟩
            case measure => simp [intOf]; omega
          · have b3 : ((y : Int) == 0) = false := by simp; omega
            obtain ⟨z, rfl⟩ : ∃ z, y = z + 1 := ⟨y - 1, by omega⟩
            have hs : zstep (x, z + 1) = (x + 1, z) := by unfold zstep; rw [if_pos hp, if_neg h7, if_neg h0]; rfl
            have HSS := Lib.hid hs
            clear hs hp h7 h0
            go_wp2_with fail
            go_roundw
            case rel => exact ⟨k + 1, by omega, by go_num, by have := N.out _ _ HSS.out; push_cast at this; first | exact this | (simp; exact this)⟩
            case measure => simp [intOf]; omega
      · have b1 : (((x : Int) + (y : Int)) % 2 == 0) = false := by simp; omega
        by_cases h7 : y = 7
        · have b2 : ((y : Int) == 7) = true := by simp; omega
          have hs : zstep (x, y) = (x + 1, y) := by unfold zstep; rw [if_neg hp, if_pos h7]
          have HSS := Lib.hid hs
          clear hs hp h7
          go_wp2_with fail
          go_roundw
          case rel => exact ⟨k + 1, by omega, by go_num, by have := N.out _ _ HSS.out; push_cast at this; exact this⟩
          case measure => simp [intOf]; omega
        · have b2 : ((y : Int) == 7) = false := by simp; omega
          by_cases h0 : x = 0
          · have b3 : ((x : Int) == 0) = true := by simp; omega
            have hs : zstep (x, y) = (x, y + 1) := by unfold zstep; rw [if_neg hp, if_neg h7, if_pos h0]
            have HSS := Lib.hid hs
            clear hs hp h7 h0
            go_wp2_with fail
            go_roundw
            case rel => exact ⟨k + 1, by omega, by go_num, by have := N.out _ _ HSS.out; push_cast at this; exact this⟩
            case measure => simp [intOf]; omega
          · have b3 : ((x : Int) == 0) = false := by simp; omega
            obtain ⟨z, rfl⟩ : ∃ z, x = z + 1 := ⟨x - 1, by omega⟩
            have hs : zstep (z + 1, y) = (z, y + 1) := by unfold zstep; rw [if_neg hp, if_neg h7, if_neg h0]; rfl
            have HSS := Lib.hid hs
            clear hs hp h7 h0
            go_wp2_with fail
            go_roundw
            case rel => exact ⟨k + 1, by omega, by go_num, by have := N.out _ _ HSS.out; push_cast at this; first | exact this | (simp; exact this)⟩
            case measure => simp [intOf]; omega
    · obtain rfl : k = 64 := by omega
      have h2' := h2.congr (g := fun j => zzAt j) (fun j hj => upto_all _ _ _ _ hj)
      obtain ⟨cz, hcz⟩ : ∃ c, c = arrC 64 fun j => (zzAt j : Int) := ⟨_, rfl⟩
      have hg1 : wr.heap[w.heap.size + 1]? = some (.cells cz 60 (0, 0)) := by rw [hcz]; exact h2'
      have hg0 : wr.heap[w.heap.size]? = some (.cells zs 60 (0, 0)) := by rw [HS.out]; exact h3
      have hcs : cz.size = 64 := by rw [hcz]; exact arrC_size _ _
      have hzs : zs.size = cz.size := by rw [HS.out, hcs]; exact arrC_size _ _
      have HI := Lib.hid (info60.trans (congrArg some hcs.symm))
      have HC1 := Lib.hid (show cz.all (·.oneCell') = true by rw [hcz]; exact arrC_one _ _)
      have HG1 := Lib.hid hg1
      have HG0 := Lib.hid hg0
      have HZS := Lib.hid hzs
      have H4 := Lib.hid h4
      have HCZ := Lib.hid hcz
      clear h2 h3 h4 h2' hcz hg1 hg0 hcs hzs
      go_wp2_with (first
        | (refine wpList_load_row rfl 60 (.tmp 1) rfl (w.heap.size + 1) rfl 60 cz (0, 0) _ HG1.out Tryd.underlying60 rfl HI.out ?_)
        | (refine wpList_store_row rfl 60 (.tmp 0) (.tmp 64) rfl w.heap.size cz rfl rfl 60 _ HG0.out HI.out HZS.out HC1.out ?_))
      refine bodyPost_ret (v := .agg cz) (results_cell_row rfl _ _ w.heap.size 60 cz (0, 0) _ rfl (setRow_heap _ _ _ _ _ _ HG0.out) Tryd.underlying60 rfl HI.out) rfl ⟨by rw [HCZ.out], ?_⟩
      exact Below_setRow H4.out (Nat.le_refl _) _
end Go.Proofs.YtlibflbpajeeeaaDoor
