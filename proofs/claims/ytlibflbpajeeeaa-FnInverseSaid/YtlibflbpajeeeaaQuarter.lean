/- The contracts of ZZScale and impl.Quarter: four blocks by value become one by averages of two by two. Conditions: 256 int32 numbers, each within 2^20. -/
import Derived.Test.YtlibflbpajeeeaaScale
namespace Go.Proofs.Ytlibflbpajeeeaa
open Go.RowKit Go.Sort

def zeros64 : Array Int := #[0, 0, 0, 0, 0, 0, 0, 0, 0, 0, 0, 0, 0, 0, 0, 0, 0, 0, 0, 0, 0, 0, 0, 0, 0, 0, 0, 0, 0, 0, 0, 0, 0, 0, 0, 0, 0, 0, 0, 0, 0, 0, 0, 0, 0, 0, 0, 0, 0, 0, 0, 0, 0, 0, 0, 0, 0, 0, 0, 0, 0, 0, 0, 0]
theorem zeros_map : zeros64.map i32v = #[.int .i32 0, .int .i32 0, .int .i32 0, .int .i32 0, .int .i32 0, .int .i32 0, .int .i32 0, .int .i32 0, .int .i32 0, .int .i32 0, .int .i32 0, .int .i32 0, .int .i32 0, .int .i32 0, .int .i32 0, .int .i32 0, .int .i32 0, .int .i32 0, .int .i32 0, .int .i32 0, .int .i32 0, .int .i32 0, .int .i32 0, .int .i32 0, .int .i32 0, .int .i32 0, .int .i32 0, .int .i32 0, .int .i32 0, .int .i32 0, .int .i32 0, .int .i32 0, .int .i32 0, .int .i32 0, .int .i32 0, .int .i32 0, .int .i32 0, .int .i32 0, .int .i32 0, .int .i32 0, .int .i32 0, .int .i32 0, .int .i32 0, .int .i32 0, .int .i32 0, .int .i32 0, .int .i32 0, .int .i32 0, .int .i32 0, .int .i32 0, .int .i32 0, .int .i32 0, .int .i32 0, .int .i32 0, .int .i32 0, .int .i32 0, .int .i32 0, .int .i32 0, .int .i32 0, .int .i32 0, .int .i32 0, .int .i32 0, .int .i32 0, .int .i32 0] := by simp [zeros64, i32v]

theorem holds_of_block {w : World} {b : Nat} {S : Array Int} {t : TypeId} (h : w.heap[b]? = some (.cells (S.map i32v) t (0, 0))) : Holds i32v w b 0 S := by
  intro j hj
  constructor
  · rw [cell_of_row _ _ _ _ t (0, 0) h, Nat.zero_add]
    exact getElem?_map_i32v S j hj
  · exact frozen_of_row _ _ _ _ t h

theorem Below_drewN (B q : Nat) (w : World) : Below B w (w.drewN q) := ⟨rfl, rfl, rfl, Nat.le_refl _, fun _ _ => rfl⟩

/-- Cells written one behind the other into an array. -/
def setArr : Nat → List Value → Array Value → Array Value
  | _, [], a => a
  | o, v :: r, a => setArr (o + 1) r (a.setIfInBounds o v)
theorem size_setArr : ∀ (l : List Value) (o : Nat) (a : Array Value), (setArr o l a).size = a.size := by
  intro l
  induction l with
  | nil => intro o a; rfl
  | cons v r ih => intro o a; rw [setArr, ih]; simp
theorem get_setArr : ∀ (l : List Value) (o : Nat) (a : Array Value) (j : Nat), o + l.length ≤ a.size → (setArr o l a)[j]? = if o ≤ j ∧ j < o + l.length then l[j - o]? else a[j]? := by
  intro l
  induction l with
  | nil => intro o a j _; rw [setArr, if_neg (by simp)]
  | cons v r ih =>
    intro o a j h
    simp only [List.length_cons] at h
    rw [setArr, ih (o + 1) _ j (by simp; omega), Array.getElem?_setIfInBounds]
    by_cases e : o = j
    · subst e
      rw [if_neg (by omega), if_pos rfl, if_pos (by omega), if_pos (by simp)]
      simp
    · by_cases e2 : o + 1 ≤ j ∧ j < o + 1 + r.length
      · rw [if_pos e2, if_pos (by simp; omega), show j - o = (j - (o + 1)) + 1 by omega]
        simp
      · rw [if_neg e2, if_neg e, if_neg (by simp; omega)]

theorem setCells_new (W : World) (t : TypeId) : ∀ (l : List Value) (o : Nat) (a : Array Value), (W.alloc (.cells a t)).setCells W.heap.size o l = W.alloc (.cells (setArr o l a) t) := by
  intro l
  induction l with
  | nil => intro o a; rfl
  | cons v r ih =>
    intro o a
    rw [World.setCells, setArr, ← ih (o + 1) (a.setIfInBounds o v), World.setCell_alloc_at _ _ _ _ _ rfl]

theorem zero_src : ∀ w, (zeroValue 45).run Try.prog w = .ok (.agg (Array.replicate 256 (.int .i32 0))) w :=
  (zero_of_info (P := Try.prog) (t := 45) (v := .agg (Array.replicate 256 (.int .i32 0))) (n := 256) (by kernel_rfl)).1

/-- What the copying loop holds: the block of the argument, the result's, the copy as far as k blocks. -/
def CopyRel (w : World) (c : Array Value) (k : Nat) (wr : World) : Prop :=
  ∃ (W : World) (z a : Array Value), W.heap.size = w.heap.size + 1 + 1 ∧ W.heap[w.heap.size]? = some (.cells c 30 (0, 0)) ∧ W.heap[w.heap.size + 1]? = some (.cells z 29 (0, 0)) ∧ z.size = 64 ∧ Below w.heap.size w W ∧
    a.size = 256 ∧ (∀ j, j < 64 * k → a[j]? = c[j]?) ∧ wr = W.alloc (.cells a 45)

theorem one_of_map {c : Array Value} {S : Array Int} (h : c = S.map i32v) (v : Value) (hv : v ∈ c.toList) : v.oneCell' = true :=
  (Array.all_eq_true_iff_forall_mem.1 (one_map h)) v (by simpa using hv)

theorem extract_list (c : Array Value) (o : Nat) (hs : c.size = 256) (ho : o + 64 ≤ 256) : (c.extract o (o + 64)).toList.length = 64 := by simp; omega

theorem copy_step {w wr : World} {c : Array Value} {k : Nat} (hc : c.size = 256) (h : CopyRel w c k wr) (hk : k < 4) :
    CopyRel w c (k + 1) (wr.setCells (w.heap.size + 1 + 1) (k * 64) (c.extract (k * 64) (k * 64 + 64)).toList) := by
  obtain ⟨W, z, a, h1, h2, h3, h4, h5, h6, h7, rfl⟩ := h
  have hl := extract_list c (k * 64) hc (by omega)
  refine ⟨W, z, setArr (k * 64) (c.extract (k * 64) (k * 64 + 64)).toList a, h1, h2, h3, h4, h5, by rw [size_setArr, h6], ?_, ?_⟩
  · intro j hj
    rw [get_setArr _ _ _ _ (by rw [hl, h6]; omega), hl]
    by_cases e : k * 64 ≤ j
    · rw [if_pos ⟨e, by omega⟩]
      rw [Array.getElem?_toList, Array.getElem?_extract, if_pos (by omega)]
      congr 1
      omega
    · rw [if_neg (by omega)]
      exact h7 j (by omega)
  · rw [← h1]
    exact setCells_new W 45 _ _ _

set_option maxRecDepth 100000 in
set_option maxHeartbeats 2000000 in
theorem zzscale_any (S : Array Int) (w : World) (hS : S.size = 256) (hb : ∀ j, j < 256 → (-1048576 : Int) ≤ S[j]! ∧ S[j]! ≤ (1048576 : Int)) :
    Calls Try.prog 16 #[.agg (S.map i32v)] w fun e w' => e = .returned (.agg ((scaleN S 64 zeros64).map i32v)) ∧ Below w.heap.size w w' := by
  obtain ⟨c, hc⟩ : ∃ c, c = S.map i32v := ⟨_, rfl⟩
  have hs : c.size = 256 := by rw [hc, Array.size_map, hS]
  have hz0 := zero_src
  obtain ⟨zs, hzs⟩ : ∃ zs : Array Value, zs = Array.replicate 256 (.int .i32 0) := ⟨_, rfl⟩
  rw [← hzs] at hz0
  have hzl : zs.size = 256 := by rw [hzs]; simp
  have hi29 : (Try.prog.info? 29).map (·.size) = some 64 := by kernel_rfl
  have hi44 : (Try.prog.info? 44).map (·.size) = some 64 := by kernel_rfl
  rw [← hc]
  have HC := Lib.hid hc
  have HS := Lib.hid hs
  have HSS := Lib.hid hS
  have HB := Lib.hid hb
  have HZL := Lib.hid hzl
  have HI29 := Lib.hid hi29
  have HI44 := Lib.hid hi44
  clear hc hs hS hb hzs hzl hi29 hi44
  go_enter Try.func16, Try.ntmps16
  go_wp2_with fail
  go_loopw [6] (fun i wr => ∃ k : Nat, k ≤ 4 ∧ i = .int .i64 k ∧ CopyRel w c k wr) (fun i _ => 4 - (intOf i).toNat)
  case atStart =>
    exact ⟨0, Nat.zero_le _, rfl, _, _, zs, by simp, heap_alloc2_old _ _ _, heap_alloc2_new _ _ _, rfl, ((Below.refl _ _).alloc (Nat.le_refl _) _).alloc (by simp) _, HZL.out, fun j hj => by omega, rfl⟩
  case round =>
    obtain ⟨k, hk, rfl, hr⟩ := hrel
    have HR := Lib.hid hr
    clear hr
    by_cases hlt : k < 4
    · have hl := extract_list c (k * 64) HS.out (by omega)
      have hrg : wr.rangeAt w.heap.size (k * 64) (c.extract (k * 64) (k * 64 + 64)).toList := by
        obtain ⟨W, z, a, h1, h2, h3, h4, h5, h6, h7, rfl⟩ := HR.out
        intro j v hv
        rw [cell_of_row _ _ _ c 30 (0, 0) (by rw [_root_.Go.heap_alloc_old _ _ (by omega)]; exact h2)]
        rw [Array.getElem?_toList, Array.getElem?_extract] at hv
        split at hv
        · exact hv
        · cases hv
      have hth : wr.there (w.heap.size + 1 + 1) (k * 64) 64 := by
        obtain ⟨W, z, a, h1, h2, h3, h4, h5, h6, h7, rfl⟩ := HR.out
        intro j hj
        have hg : (W.alloc (.cells a 45)).heap[w.heap.size + 1 + 1]? = some (.cells a 45 (0, 0)) := by rw [← h1]; exact heap_alloc_new _ _
        constructor
        · rw [cell_of_row _ _ _ _ _ _ hg, Array.getElem?_eq_getElem (by omega)]; rfl
        · exact frozen_of_row _ _ _ _ _ hg
      obtain ⟨l, hle⟩ : ∃ l, l = (c.extract (k * 64) (k * 64 + 64)).toList := ⟨_, rfl⟩
      rw [← hle] at hrg hl
      have hone : l.toArray.all (·.oneCell') = true := all_oneCell_toArray (fun v hv => one_of_map HC.out v (by rw [hle] at hv; simp at hv; exact List.mem_of_mem_drop (List.mem_of_mem_take hv)))
      have HRG := Lib.hid hrg
      have hlz : l.toArray.size = 64 := by simp [hl]
      have HLI := Lib.hid (HI29.out.trans (congrArg some hl.symm))
      have HTH := Lib.hid (show wr.there (w.heap.size + 1 + 1) (k * 64) l.toArray.size by rw [hlz]; exact hth)
      have HLT := Lib.hid (show (Try.prog.info? 44).map (·.size) = some l.toArray.size by rw [hlz]; exact HI44.out)
      have HLE := Lib.hid hle
      have HONE := Lib.hid hone
      clear hrg hth hl hle hone hlz
      go_wp2_with (first
        | (refine wpList_load_mid rfl 29 (.tmp 11) rfl w.heap.size (k * 64) rfl l _ HRG.out Try.underlying29 rfl HLI.out ?_)
        | (refine wpList_store_mid rfl 44 (.tmp 13) (.tmp 12) rfl (w.heap.size + 1 + 1) (k * 64) l.toArray rfl rfl HTH.out HLT.out HONE.out ?_))
      go_roundw
      case rel =>
        refine ⟨k + 1, by omega, by go_num, ?_⟩
        rw [HLE.out]
        simpa using copy_step HS.out HR.out hlt
      case measure => simp [intOf]; omega
    · obtain rfl : k = 4 := by omega
      obtain ⟨W, z, a, h1, h2, h3, h4, h5, h6, h7, hw⟩ := HR.out
      obtain rfl : a = c := Array.ext_getElem? fun j => by
        by_cases hj : j < 256
        · exact h7 j (by omega)
        · rw [Array.getElem?_eq_none (by omega), Array.getElem?_eq_none (by rw [HS.out]; omega)]
      subst hw
      clear HR h6 h7
      have H1 := Lib.hid h1
      have H2 := Lib.hid h2
      have H3 := Lib.hid h3
      have H4 := Lib.hid h4
      have H5 := Lib.hid h5
      clear h1 h2 h3 h4 h5
      go_wp2_with fail
      rw [← zeros_map]
      refine (scale_any _ _ zeros64 S _ rfl HSS.out (holds_of_block (t := 44) ?_) (holds_of_block (t := 45) ?_) ?_ HB.out).mono ?_
      · rw [show W.heap.size + 1 = (W.alloc (.cells a 45)).heap.size by simp]
        exact heap_alloc_new _ _
      · rw [_root_.Go.heap_alloc_old _ _ (by simp; have := H1.out; omega), ← HC.out, ← H1.out]
        exact heap_alloc_new _ _
      · have := H1.out; omega
      rintro e w1 ⟨rfl, q, hw1⟩
      rw [show W.heap.size + 1 = (W.alloc (.cells a 45)).heap.size by simp, putRow_new _ _ _ _ (by rw [size_scaleN])] at hw1
      obtain ⟨c', hc'⟩ : ∃ c', c' = (scaleN S 64 zeros64).map i32v := ⟨_, rfl⟩
      have hs' : c'.size = 64 := by rw [hc', Array.size_map, size_scaleN]; rfl
      rw [← hc'] at hw1
      subst hw1
      have HC' := Lib.hid hc'
      have HZ44' := Lib.hid (HI44.out.trans (congrArg some hs'.symm))
      have HZ' := Lib.hid (HI29.out.trans (congrArg some hs'.symm))
      have HS' := Lib.hid hs'.symm
      have HS2 := Lib.hid (H4.out.trans hs'.symm)
      have H1' := Lib.hid (one_map hc')
      have hr1 : (((W.alloc (.cells a 45)).alloc (.cells c' 44)).drewN q).heap[w.heap.size + 1]? = some (.cells z 29 (0, 0)) := by
        show ((W.alloc (.cells a 45)).alloc (.cells c' 44)).heap[w.heap.size + 1]? = _
        rw [_root_.Go.heap_alloc_old _ _ (by simp; have := H1.out; omega), _root_.Go.heap_alloc_old _ _ (by have := H1.out; omega)]
        exact H3.out
      have HR1 := Lib.hid hr1
      have hr2 : (((W.alloc (.cells a 45)).alloc (.cells c' 44)).drewN q).heap[W.heap.size + 1]? = some (.cells c' 44 (0, 0)) := heap_alloc2_new _ _ _
      have HR2 := Lib.hid hr2
      clear hc' hs' hr1 hr2
      go_wp2_with (first
        | (refine wpList_load_row rfl 44 (.tmp 5) rfl (W.heap.size + 1) rfl 44 c' (0, 0) _ HR2.out Try.underlying44 rfl HZ44'.out ?_)
        | (refine wpList_store_row rfl 29 (.tmp 2) (.tmp 16) rfl (w.heap.size + 1) c' rfl rfl 29 z HR1.out HZ'.out HS2.out H1'.out ?_))
      refine bodyPost_ret (v := .agg c') (results_cell_row rfl _ _ (w.heap.size + 1) 29 c' (0, 0) _ rfl (setRow_heap _ _ _ _ _ _ HR1.out) Try.underlying29 rfl HZ'.out) rfl ⟨by rw [HC'.out], ?_⟩
      refine Below_setRow ?_ (by omega) _
      exact H5.out.trans ((((Below.refl _ _).alloc (by have := H1.out; omega) _).alloc (by simp; have := H1.out; omega) _).trans (Below_drewN _ _ _))

/-- A block out of four by value. -/
theorem index_block (c : Array Value) (k : Nat) (hk : k < 4) (w : World) :
    (Instr.index 30 (.agg c) (.int .i64 (k : Int))).run Try.prog w = .ok (.agg (c.extract (k * 64) (k * 64 + 64))) w := by
  have hu : Try.prog.underlying 30 = some (.array 4 29) := by kernel_rfl
  have hs : (sizeOf 29).run Try.prog w = .ok 64 w := by kernel_rfl
  simp [Instr.index, asIntOf, run_underlying hu, hs, part]
  intro h
  omega

def QRel (w : World) (c : Array Value) (wr : World) : Prop :=
  ∃ z : Array Value, wr.heap[w.heap.size]? = some (.cells c 30 (0, 0)) ∧ wr.heap[w.heap.size + 1]? = some (.cells z 29 (0, 0)) ∧ z.size = 64 ∧ Below w.heap.size w wr ∧ w.heap.size + 1 < wr.heap.size

theorem QRel.alloc {w wr : World} {c : Array Value} (h : QRel w c wr) (o : Obj) : QRel w c (wr.alloc o) := by
  obtain ⟨z, h1, h2, h3, h4, h5⟩ := h
  exact ⟨z, by rw [_root_.Go.heap_alloc_old _ _ (by omega)]; exact h1, by rw [_root_.Go.heap_alloc_old _ _ (by omega)]; exact h2, h3, h4.alloc (by omega) _, by simp; omega⟩

theorem extract_map (S : Array Int) (o j : Nat) (hS : S.size = 256) (ho : o + 64 ≤ 256) (hj : j < 64) : ((S.map i32v).extract o (o + 64))[j]? = some (.int .i32 (S.extract o (o + 64))[j]!) := by
  rw [Array.getElem?_extract, if_pos (by simp; omega), Array.getElem?_map, Array.getElem?_eq_getElem (by omega), getElem!_pos _ j (by simp; omega)]
  simp [i32v]

set_option maxRecDepth 100000 in
set_option maxHeartbeats 2000000 in
theorem quarter_any (S : Array Int) (w : World) (hS : S.size = 256) (hb : ∀ j, j < 256 → (-1048576 : Int) ≤ S[j]! ∧ S[j]! ≤ (1048576 : Int)) :
    Calls Try.prog 9 #[.agg (S.map i32v)] w fun e w' => e = .returned (.agg ((scaleN S 64 zeros64).map i32v)) ∧ Below w.heap.size w w' := by
  obtain ⟨c, hc⟩ : ∃ c, c = S.map i32v := ⟨_, rfl⟩
  have hs : c.size = 256 := by rw [hc, Array.size_map, hS]
  have hi29 : (Try.prog.info? 29).map (·.size) = some 64 := by kernel_rfl
  have hi30 : (Try.prog.info? 30).map (·.size) = some c.size := by rw [hs]; kernel_rfl
  obtain ⟨c', hc'⟩ : ∃ c', c' = (scaleN S 64 zeros64).map i32v := ⟨_, rfl⟩
  have hs' : c'.size = 64 := by rw [hc', Array.size_map, size_scaleN]; rfl
  have hzz := fun w => zzscale_any S w hS hb
  rw [← hc'] at hzz
  rw [← hc] at hzz
  rw [← hc, ← hc']
  have HZZ := Lib.hid hzz
  have HC := Lib.hid hc
  have HS := Lib.hid hs
  have HSS := Lib.hid hS
  have HB := Lib.hid hb
  have HI29 := Lib.hid hi29
  have HI30 := Lib.hid hi30
  have HS' := Lib.hid hs'
  have HZ' := Lib.hid (hi29.trans (congrArg some hs'.symm))
  have H1' := Lib.hid (one_map hc')
  clear hc hs hS hb hi29 hi30 hzz hs' hc'
  go_enter Try.func9, Try.ntmps9
  go_wp2_with (refine wpList_load_row rfl 30 (.tmp 1) rfl w.heap.size rfl 30 c (0, 0) _ (heap_alloc2_old _ _ _) Try.underlying30 rfl HI30.out ?_)
  go_loopw [6] (fun i wr => ∃ k : Nat, k ≤ 4 ∧ i = .int .i64 k ∧ QRel w c wr) (fun i _ => 4 - (intOf i).toNat)
  case atStart => exact ⟨0, Nat.zero_le _, rfl, _, heap_alloc2_old _ _ _, heap_alloc2_new _ _ _, rfl, ((Below.refl _ _).alloc (Nat.le_refl _) _).alloc (by simp) _, by simp⟩
  case round =>
    obtain ⟨k, hk, rfl, hr⟩ := hrel
    have HR := Lib.hid hr
    clear hr
    by_cases hlt : k < 4
    · have hix := index_block c k hlt
      obtain ⟨x, hx⟩ : ∃ x, x = c.extract (k * 64) (k * 64 + 64) := ⟨_, rfl⟩
      rw [← hx] at hix
      have hxs : x.size = 64 := by rw [hx]; simp [HS.out]; omega
      have hx1 : x.all (·.oneCell') = true := by
        rw [Array.all_eq_true_iff_forall_mem]
        intro v hv
        refine one_of_map HC.out v ?_
        have hv' : v ∈ x.toList := by simpa using hv
        rw [hx] at hv'
        simp at hv'
        exact List.mem_of_mem_drop (List.mem_of_mem_take hv')
      have hf := fun w => fits_any (S.extract (k * 64) (k * 64 + 64)) x w hxs (fun j hj => by rw [hx, HC.out]; exact extract_map S (k * 64) j HSS.out (by omega) hj) (fun j hj => by
        rw [getElem!_pos _ j (by simp [HSS.out]; omega), Array.getElem_extract]
        have := HB.out (k * 64 + j) (by omega)
        rw [getElem!_pos S (k * 64 + j) (by rw [HSS.out]; omega)] at this
        exact this)
      have HF := Lib.hid hf
      have HX1 := Lib.hid hx1
      have HXS := Lib.hid (show (64 : Nat) = x.size from hxs.symm)
      have HXI := Lib.hid (HI29.out.trans (congrArg some hxs.symm))
      clear hf hx1 hxs hx
      go_wp2_with (first
        | (refine wpList_store_new rfl 29 (.tmp 4) (.tmp 8) rfl wr.heap.size x rfl rfl wr _ 29 rfl HXI.out HXS.out HX1.out ?_)
        | (refine wpList_load_row rfl 29 (.tmp 4) rfl wr.heap.size rfl 29 x (0, 0) _ (heap_alloc_new _ _) Try.underlying29 rfl HXI.out ?_))
      refine (HF.out _).mono ?_
      rintro e w1 ⟨rfl, rfl⟩
      go_wp2_with fail
      go_roundw
      case rel => exact ⟨k + 1, by omega, by go_num, (HR.out.alloc _).alloc _⟩
      case measure => simp [intOf]; omega
    · obtain rfl : k = 4 := by omega
      obtain ⟨z, h1, h2, h3, h4, h5⟩ := HR.out
      have H1 := Lib.hid h1
      have H2 := Lib.hid h2
      have H3 := Lib.hid (h3.trans HS'.out.symm)
      have H4 := Lib.hid h4
      have H5 := Lib.hid h5
      clear h1 h2 h3 h4 h5
      go_wp2_with (refine wpList_load_row rfl 30 (.tmp 1) rfl w.heap.size rfl 30 c (0, 0) _ H1.out Try.underlying30 rfl HI30.out ?_)
      refine (HZZ.out _).mono ?_
      rintro e w1 ⟨rfl, hb⟩
      have hm := (hb.block (w.heap.size + 1) (by have := H5.out; omega)).trans H2.out
      have HM := Lib.hid hm
      have HBB := Lib.hid hb
      clear hm hb
      go_wp2_with (refine wpList_store_row rfl 29 (.tmp 2) (.tmp 15) rfl (w.heap.size + 1) c' rfl rfl 29 z HM.out HZ'.out H3.out H1'.out ?_)
      refine bodyPost_ret (v := .agg c') (results_cell_row rfl _ _ (w.heap.size + 1) 29 c' (0, 0) _ rfl (setRow_heap _ _ _ _ _ _ HM.out) Try.underlying29 rfl HZ'.out) rfl ⟨rfl, ?_⟩
      refine Below_setRow ?_ (by omega) _
      exact H4.out.trans (HBB.out.mono (by have := H5.out; omega))

end Go.Proofs.Ytlibflbpajeeeaa
