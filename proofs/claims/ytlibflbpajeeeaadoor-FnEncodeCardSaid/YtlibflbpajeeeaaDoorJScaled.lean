/- The contracts of the reference's Base and Scaled: the tables of the standard, by quality. The contract of the reference's Scaled: a table by quality. (Joined by wip/gen/merge.py.) -/
import Derived.Test.YtlibflbpajeeeaaDoorJArr
import Derived.Great.BuildSlice
namespace Go.Proofs.YtlibflbpajeeeaaDoor
open Go.RowKit

/-- The standard's tables, row by row. -/
def baseL : Nat → List Int
  | 0 => [16, 11, 10, 16, 24, 40, 51, 61, 12, 12, 14, 19, 26, 58, 60, 55, 14, 13, 16, 24, 40, 57, 69, 56, 14, 17, 22, 29, 51, 87, 80, 62, 18, 22, 37, 56, 68, 109, 103, 77, 24, 35, 55, 64, 81, 104, 113, 92, 49, 64, 78, 87, 103, 121, 120, 101, 72, 92, 95, 98, 112, 100, 103, 99]
  | _ => [17, 18, 24, 47, 99, 99, 99, 99, 18, 21, 26, 66, 99, 99, 99, 99, 24, 26, 56, 99, 99, 99, 99, 99, 47, 66, 99, 99, 99, 99, 99, 99, 99, 99, 99, 99, 99, 99, 99, 99, 99, 99, 99, 99, 99, 99, 99, 99, 99, 99, 99, 99, 99, 99, 99, 99, 99, 99, 99, 99, 99, 99, 99, 99]
def baseF (q j : Nat) : Int := (baseL q).getD j 0
theorem base_lit0 : ((baseL 0).map (Value.int .i64)).toArray = arrC 64 (baseF 0) := by kernel_rfl

/-- The chroma table as it is filled. -/
def corner : List Int := [17, 18, 24, 47, 18, 21, 26, 66, 24, 26, 56, 99, 47, 66, 99, 99]
def fill16 : Nat → Nat → Int
  | 0 => fun _ => 99
  | k + 1 => upd (fill16 k) (8 * (k / 4) + k % 4) (corner.getD k 0)
theorem fill16_all : ∀ j, j < 64 → fill16 16 j = baseF 1 j := by decide +kernel
theorem corner_lit : (corner.map (Value.int .i64)).toArray = #[.int .i64 17, .int .i64 18, .int .i64 24, .int .i64 47, .int .i64 18, .int .i64 21, .int .i64 26, .int .i64 66, .int .i64 24, .int .i64 26, .int .i64 56, .int .i64 99, .int .i64 47, .int .i64 66, .int .i64 99, .int .i64 99] := by kernel_rfl
theorem corner_get (k : Nat) (hk : k < 16) : (corner.map (Value.int .i64)).toArray[k]? = some (.int .i64 (corner.getD k 0)) := by
  have hl : k < corner.length := hk
  simp [List.getElem?_eq_getElem hl]

set_option maxRecDepth 100000 in
set_option maxHeartbeats 1000000 in
theorem base0_any (w : World) : Calls Tryd.prog 48 #[.bool false] w fun e w' => e = .returned (.agg (arrC 64 (baseF 0))) ∧ Below w.heap.size w w' := by
  have hz := zero60
  obtain ⟨zs, hzs⟩ : ∃ zs, zs = arrC 64 fun _ => 0 := ⟨_, rfl⟩
  rw [← hzs] at hz
  have HS := Lib.hid hzs
  obtain ⟨bl, hbl⟩ : ∃ bl, bl = baseL 0 := ⟨_, rfl⟩
  have hbz : bl.length = 64 := by rw [hbl]; rfl
  have hcz : zs.size = 64 := by rw [hzs]; exact arrC_size _ _
  have HB := Lib.hid hbl
  have H64 := Lib.hid (show (Tryd.prog.info? 60).map (·.size) = some ((bl.map (Value.int .i64)).toArray).size from info60.trans (by simp [hbz]))
  have HSZ := Lib.hid (show zs.size = ((bl.map (Value.int .i64)).toArray).size by rw [hcz]; simp [hbz])
  have H1 := Lib.hid (show ((bl.map (Value.int .i64)).toArray).all (·.oneCell') = true from all_oneCell_toArray (by intro v hv; rw [List.mem_map] at hv; obtain ⟨x, _, rfl⟩ := hv; rfl))
  have HP : RowKit.Hid (∀ l : List (Nat × Operand), l = ((baseL 0).zipIdx 0).map (fun x => (x.2, Operand.const (Value.int .i64 x.1))) → l = (bl.zipIdx 0).map fun x => (x.2, Operand.const (Value.int .i64 x.1))) := fun l h => by rw [h, ← hbl]
  have HL := Lib.hid (show ((Tryd.prog.info? 60).bind (·.zero)).map (·.cells.size) = some bl.length by rw [hbz]; kernel_rfl)
  clear hzs hbl hbz hcz
  go_enter Tryd.func48, Tryd.ntmps48
  go_wp2_with (first
    | (refine wpList_buildFlatArrTo rfl 60 3 64 _ rfl .i64 bl _ rfl Tryd.underlying60 (by kernel_rfl) HL.out (HP.out _ (by rfl)) ?_)
    | (refine wpList_store_row rfl 60 (.tmp 2) (.tmp 32) rfl w.heap.size _ rfl rfl 60 zs (heap_alloc_new _ _) H64.out HSZ.out H1.out ?_))
  refine bodyPost_ret (v := .agg (bl.map (Value.int .i64)).toArray) (results_cell_row rfl _ _ w.heap.size 60 _ (0, 0) _ rfl (setRow_heap _ _ _ _ _ _ (heap_alloc_new _ _)) Tryd.underlying60 rfl H64.out) rfl ⟨by rw [HB.out, base_lit0], ?_⟩
  exact Below_setRow ((Below.refl _ _).alloc (Nat.le_refl _) _) (Nat.le_refl _) _

set_option maxRecDepth 100000 in
set_option maxHeartbeats 2000000 in
theorem base1_any (w : World) : Calls Tryd.prog 48 #[.bool true] w fun e w' => e = .returned (.agg (arrC 64 (baseF 1))) ∧ Below w.heap.size w w' := by
  have hz := zero60
  obtain ⟨zs, hzs⟩ : ∃ zs, zs = arrC 64 fun _ => 0 := ⟨_, rfl⟩
  rw [← hzs] at hz
  have HS := Lib.hid hzs
  have hsz : zs.size = 64 := by rw [hzs]; exact arrC_size _ _
  have h1 : zs.all (·.oneCell') = true := by rw [hzs]; exact arrC_one _ _
  have H60 := Lib.hid (info60.trans (congrArg some hsz.symm))
  have H1 := Lib.hid h1
  clear hzs hsz h1
  go_enter Tryd.func48, Tryd.ntmps48
  go_wp2_with (refine wpList_store_new rfl 60 (.tmp 3) (.tmp 8) rfl (w.heap.size + 1) zs rfl rfl _ _ 60 (size_alloc1 _ _) H60.out rfl H1.out ?_)
  go_loopw [4, 9] (fun _ kv wr => ∃ k : Nat, k ≤ 64 ∧ kv = .int .i64 k ∧ ArrAt wr (w.heap.size + 1) 60 64 (upto (fun _ => 99) 0 k) ∧ ArrAt wr w.heap.size 60 64 (fun _ => 0) ∧ Below w.heap.size w wr) (fun _ kv _ => 64 - (intOf kv).toNat)
  case atStart =>
    refine ⟨0, by omega, rfl, ?_, ?_, ((Below.refl _ _).alloc (Nat.le_refl _) _).alloc (by simp) _⟩
    · rw [upto_zero]
      unfold ArrAt
      rw [← HS.out, size_alloc1 w (.cells zs 60)]
      exact heap_alloc_new _ _
    · unfold ArrAt
      rw [← HS.out, _root_.Go.heap_alloc_old _ _ (by simp)]
      exact heap_alloc_new _ _
  case round =>
    obtain ⟨k, hk, rfl, h2, h3, h4⟩ := hrel
    by_cases hk64 : k < 64
    · have hcell := h2.cell k hk64
      have hfree := h2.free k
      obtain ⟨old, hold⟩ : ∃ z, z = upto (fun _ => (99 : Int)) 0 k k := ⟨_, rfl⟩
      rw [← hold] at hcell
      have N := Lib.hid (And.intro (h2.set k 99) (And.intro (h3.same (Below.heap_setCell wr ⟨w.heap.size + 1, k, none⟩ (.int .i64 99) w.heap.size (by show _ ≠ _ + 1; omega))) (below_set h4 (w.heap.size + 1) k (by omega) (.int .i64 99))))
      clear h2 h3 h4 hold
      go_wp2_with fail
      go_roundw
      case rel =>
        refine ⟨k + 1, by omega, by go_num, ?_, N.out.2.1, N.out.2.2⟩
        have := N.out.1
        rw [upto_succ (fun _ => (99 : Int)) 0 k] at this
        exact this
      case measure => simp [intOf]; omega
    · obtain rfl : k = 64 := by omega
      have h2' := h2.congr (g := fill16 0) (fun j hj => upto_all _ _ _ _ hj)
      have H2 := Lib.hid h2'
      have H3 := Lib.hid h3
      have H4 := Lib.hid h4
      clear h2 h3 h4 h2'
      obtain ⟨w0, rfl⟩ : ∃ w0 : World, w0 = wr := ⟨_, rfl⟩
      go_wp2_with fail
      go_loopw [5, 6, 17] (fun _ _ kv wq => ∃ k : Nat, k ≤ 16 ∧ kv = .int .i64 k ∧ ArrAt wq (w.heap.size + 1) 60 64 (fill16 k) ∧ ArrAt wq w.heap.size 60 64 (fun _ => 0) ∧ wq.heap[w0.heap.size]? = some (.cells (corner.map (Value.int .i64)).toArray 3 (0, 0)) ∧ Below w.heap.size w wq) (fun _ _ kv _ => 16 - (intOf kv).toNat)
      case atStart =>
        refine ⟨0, by omega, rfl, H2.out.alloc _, H3.out.alloc _, ?_, H4.out.alloc H4.out.size _⟩
        rw [corner_lit]
        exact heap_alloc_new _ _
      case round =>
        obtain ⟨k, hk, rfl, h2, h3, h5, h4⟩ := hrel
        have hne : w.heap.size + 1 ≠ w0.heap.size := by have := H2.out.lt; omega
        by_cases hk16 : k < 16
        · have hcell := h2.cell (8 * (k / 4) + k % 4) (by omega)
          have hfree := h2.free (8 * (k / 4) + k % 4)
          have hcor : wr.cell? ⟨w0.heap.size, k, none⟩ = some (.int .i64 (corner.getD k 0)) := by rw [cell_of_row _ _ _ _ _ _ h5]; exact corner_get k hk16
          obtain ⟨cv, hcv⟩ : ∃ z, z = corner.getD k 0 := ⟨_, rfl⟩
          rw [← hcv] at hcor
          obtain ⟨old, hold⟩ : ∃ z, z = fill16 k (8 * (k / 4) + k % 4) := ⟨_, rfl⟩
          rw [← hold] at hcell
          have N := Lib.hid (And.intro (h2.set (8 * (k / 4) + k % 4) cv) (And.intro (h3.same (Below.heap_setCell wr ⟨w.heap.size + 1, 8 * (k / 4) + k % 4, none⟩ (.int .i64 cv) w.heap.size (by show _ ≠ _ + 1; omega))) (And.intro ((Below.heap_setCell wr ⟨w.heap.size + 1, 8 * (k / 4) + k % 4, none⟩ (.int .i64 cv) w0.heap.size (fun e => hne e.symm)).trans h5) (below_set h4 (w.heap.size + 1) (8 * (k / 4) + k % 4) (by omega) (.int .i64 cv)))))
          have HCV := Lib.hid hcv
          have hi1 : (0 : Int) ≤ 8 * ((k : Int) / 4) + (k : Int) % 4 := by omega
          have hi2 : 8 * ((k : Int) / 4) + (k : Int) % 4 < 64 := by omega
          have hi3 : (8 * ((k : Int) / 4) + (k : Int) % 4).toNat = 8 * (k / 4) + k % 4 := by omega
          clear h2 h3 h4 h5 hold hcv
          go_wp2_with fail
          go_roundw
          case rel =>
            refine ⟨k + 1, by omega, by go_num, ?_, N.out.2.1, N.out.2.2.1, N.out.2.2.2⟩
            rw [fill16, ← HCV.out]
            exact N.out.1
          case measure => simp [intOf]; omega
        · obtain rfl : k = 16 := by omega
          have h2' := h2.congr fill16_all
          obtain ⟨cz, hcz⟩ : ∃ c, c = arrC 64 (baseF 1) := ⟨_, rfl⟩
          have hg1 : wr.heap[w.heap.size + 1]? = some (.cells cz 60 (0, 0)) := by rw [hcz]; exact h2'
          have hg0 : wr.heap[w.heap.size]? = some (.cells zs 60 (0, 0)) := by rw [HS.out]; exact h3
          have hcs : cz.size = 64 := by rw [hcz]; exact arrC_size _ _
          have hzs : zs.size = cz.size := by rw [HS.out, hcs]; exact arrC_size _ _
          have HI := Lib.hid (info60.trans (congrArg some hcs.symm))
          have HC1 := Lib.hid (show cz.all (·.oneCell') = true by rw [hcz]; exact arrC_one _ _)
          have HG1 := Lib.hid hg1
          have HG0 := Lib.hid hg0
          have HZS := Lib.hid hzs
          have H4' := Lib.hid h4
          have HCZ := Lib.hid hcz
          clear h2 h3 h4 h5 h2' hcz hg1 hg0 hcs hzs
          go_wp2_with (first
            | (refine wpList_load_row rfl 60 (.tmp 3) rfl (w.heap.size + 1) rfl 60 cz (0, 0) _ HG1.out Tryd.underlying60 rfl HI.out ?_)
            | (refine wpList_store_row rfl 60 (.tmp 2) (.tmp 31) rfl w.heap.size cz rfl rfl 60 _ HG0.out HI.out HZS.out HC1.out ?_))
          refine bodyPost_ret (v := .agg cz) (results_cell_row rfl _ _ w.heap.size 60 cz (0, 0) _ rfl (setRow_heap _ _ _ _ _ _ HG0.out) Tryd.underlying60 rfl HI.out) rfl ⟨by rw [HCZ.out], ?_⟩
          exact Below_setRow H4'.out (Nat.le_refl _) _
end Go.Proofs.YtlibflbpajeeeaaDoor

namespace Go.Proofs.YtlibflbpajeeeaaDoor
open Go.RowKit

def scl (q : Int) : Int := if q < 50 then 5000 / q else 200 - 2 * q
def qt (q : Int) (c j : Nat) : Int := min (max ((baseF c (zzAt j) * scl q + 50) / 100) 1) 255
theorem base_bd : ∀ c, c < 2 → ∀ j, j < 64 → 0 ≤ baseF c j ∧ baseF c j ≤ 121 := by decide +kernel
theorem scl_bd (q : Int) (hq : 1 ≤ q ∧ q ≤ 100) : 0 ≤ scl q ∧ scl q ≤ 5000 := by
  unfold scl
  split
  · have h1 : 5000 / q ≤ 5000 := Int.ediv_le_self q (by omega)
    have h2 : 0 ≤ 5000 / q := Int.ediv_nonneg (by omega) (by omega)
    omega
  · omega
theorem setRow_next (w : World) (A : Obj) (zs bs : Array Value) : (((w.alloc A).alloc (.cells zs 60)).setRow w.heap.size bs).heap[w.heap.size + 1]? = some (.cells zs 60 (0, 0)) := by
  rw [setRow_other _ _ _ _ (by omega)]; exact heap_alloc2_new _ _ _
theorem setRow_size2 (w : World) (A B : Obj) (g : Nat) (bs us : Array Value) : w.heap.size + 1 + 1 = ((((w.alloc A).alloc B).setRow g bs).setRow (w.heap.size + 1) us).heap.size := by simp
theorem clamp_if (y : Int) : min (max y 1) 255 = if 255 < (if y < 1 then 1 else y) then 255 else (if y < 1 then 1 else y) := by
  by_cases h : y < 1
  · rw [if_pos h, if_neg (by omega)]; omega
  · rw [if_neg h]
    by_cases h2 : 255 < y
    · rw [if_pos h2]; omega
    · rw [if_neg h2]; omega
theorem qt_bd (q : Int) (c j : Nat) : 1 ≤ qt q c j ∧ qt q c j ≤ 255 := by unfold qt; omega

/-- What the loop of Scaled holds behind n rounds. -/
structure QtRel (w w2 : World) (c : Nat) (q : Int) (n : Nat) (wr : World) : Prop where
  a : ArrAt wr (w2.heap.size + 1 + 1) 60 64 (upto (qt q c) 0 n)
  b : ArrAt wr w2.heap.size 60 64 (baseF c)
  u : ArrAt wr (w2.heap.size + 1) 60 64 (fun j => zzAt j)
  r : ArrAt wr w.heap.size 60 64 (fun _ => 0)
  k : Below w.heap.size w wr
  s : w.heap.size < w2.heap.size
theorem qtRel_start (w w2 : World) (c : Nat) (q : Int) (h : Below w.heap.size w w2) (hr : ArrAt w2 w.heap.size 60 64 (fun _ => 0)) :
    QtRel w w2 c q 0 (((((w2.alloc (.cells (arrC 64 fun _ => 0) 60)).alloc (.cells (arrC 64 fun _ => 0) 60)).setRow w2.heap.size (arrC 64 (baseF c))).setRow (w2.heap.size + 1) (arrC 64 fun j => (zzAt j : Int))).alloc (.cells (arrC 64 fun _ => 0) 60)) := by
  have hs := hr.lt
  refine ⟨?_, ?_, ?_, ?_, ?_, hs⟩
  · rw [upto_zero, setRow_size2 w2 (.cells (arrC 64 fun _ => 0) 60) (.cells (arrC 64 fun _ => 0) 60) w2.heap.size (arrC 64 (baseF c)) (arrC 64 fun j => (zzAt j : Int))]
    exact heap_alloc_new _ _
  · unfold ArrAt
    rw [_root_.Go.heap_alloc_old _ _ (by simp; omega), setRow_other _ _ _ _ (by omega)]
    exact setRow_heap _ _ _ _ _ _ (heap_alloc2_old _ _ _)
  · unfold ArrAt
    rw [_root_.Go.heap_alloc_old _ _ (by simp)]
    exact setRow_heap _ _ _ _ _ _ (setRow_next _ _ _ _)
  · unfold ArrAt
    rw [_root_.Go.heap_alloc_old _ _ (by simp; omega), setRow_other _ _ _ _ (by omega), setRow_other _ _ _ _ (by omega), _root_.Go.heap_alloc_old _ _ (by simp; omega), _root_.Go.heap_alloc_old _ _ hs]
    exact hr
  · exact (Below_setRow (Below_setRow ((h.alloc h.size _).alloc (by simp; omega) _) (by omega) _) (by omega) _).alloc (by simp; omega) _
theorem QtRel.next {w w2 : World} {c : Nat} {q : Int} {n : Nat} {wr : World} (h : QtRel w w2 c q n wr) (x : Int) (hx : x = qt q c n) : QtRel w w2 c q (n + 1) (wr.setCell ⟨w2.heap.size + 1 + 1, n, none⟩ (.int .i64 x)) := by
  have hs := h.s
  refine ⟨?_, h.b.same (heap_set_other _ _ _ _ _ (by omega)), h.u.same (heap_set_other _ _ _ _ _ (by omega)), h.r.same (heap_set_other _ _ _ _ _ (by omega)), below_set h.k _ _ (by omega) _, hs⟩
  rw [← upto_succ, ← hx]
  exact h.a.set n x

set_option maxRecDepth 100000 in
set_option maxHeartbeats 4000000 in
theorem scaled_of (w : World) (cb : Bool) (c : Nat) (hc : c < 2) (q : Int) (hq : 1 ≤ q ∧ q ≤ 100) (hb : ∀ u, Calls Tryd.prog 48 #[.bool cb] u fun e u' => e = .returned (.agg (arrC 64 (baseF c))) ∧ Below u.heap.size u u') :
    Calls Tryd.prog 19 #[.bool cb, .int .i64 q] w fun e w' => e = .returned (.agg (arrC 64 (qt q c))) ∧ Below w.heap.size w w' := by
  have hz := zero60
  obtain ⟨zs, hzs⟩ : ∃ zs, zs = arrC 64 fun _ => 0 := ⟨_, rfl⟩
  rw [← hzs] at hz
  obtain ⟨bs, hbs⟩ : ∃ zs, zs = arrC 64 (baseF c) := ⟨_, rfl⟩
  obtain ⟨us, hus⟩ : ∃ zs, zs = arrC 64 fun j => (zzAt j : Int) := ⟨_, rfl⟩
  have hzz := zigzag_any
  rw [← hbs] at hb
  rw [← hus] at hzz
  have HS := Lib.hid hzs
  have HBS := Lib.hid hbs
  have HUS := Lib.hid hus
  have hsz : zs.size = 64 := by rw [hzs]; exact arrC_size _ _
  have hsb : bs.size = 64 := by rw [hbs]; exact arrC_size _ _
  have hsu : us.size = 64 := by rw [hus]; exact arrC_size _ _
  have HZ0 := Lib.hid (info60.trans (congrArg some hsz.symm))
  have HB0 := Lib.hid (info60.trans (congrArg some hsb.symm))
  have HU0 := Lib.hid (info60.trans (congrArg some hsu.symm))
  have HZ1 := Lib.hid (show zs.all (·.oneCell') = true by rw [hzs]; exact arrC_one _ _)
  have HB1 := Lib.hid (show bs.all (·.oneCell') = true by rw [hbs]; exact arrC_one _ _)
  have HU1 := Lib.hid (show us.all (·.oneCell') = true by rw [hus]; exact arrC_one _ _)
  have HSB := Lib.hid (hsz.trans hsb.symm)
  have HSU := Lib.hid (hsz.trans hsu.symm)
  have HB := Lib.hid hb
  have HZZ := Lib.hid hzz
  obtain ⟨hs0, hs1⟩ := scl_bd q hq
  obtain ⟨hq0, hq1⟩ := hq
  have hqz : (q == 0) = false := by simp; omega
  have hcl : ∃ k, k = scl q := ⟨_, rfl⟩
  obtain ⟨k, hk⟩ := hcl
  rw [← hk] at hs0 hs1
  have HK := Lib.hid hk
  clear hzs hbs hus hsz hsb hsu hb hzz hk
  by_cases h50 : q < 50
  · have hk : 5000 / q = k := by rw [HK.out]; unfold scl; rw [if_pos h50]
    go_enter Tryd.func19, Tryd.ntmps19
    go_wp2_with fail
    refine (HB.out _).mono ?_
    rintro e w1 ⟨rfl, hb1⟩
    have HB1' := Lib.hid hb1
    clear hb1
    go_wp2_with fail
    refine (HZZ.out _).mono ?_
    rintro e w2 ⟨rfl, hb2⟩
    have hb02 : Below w.heap.size w w2 ∧ ArrAt w2 w.heap.size 60 64 (fun _ => 0) := by
      have h1 := HB1'.out
      refine ⟨((Below.refl _ _).alloc (Nat.le_refl _) _).trans ((h1.mono (by simp)).trans (hb2.mono (by have := h1.size; simp at this; omega))), ?_⟩
      have e1 := h1.block w.heap.size (by simp)
      have e2 := hb2.block w.heap.size (by have := h1.size; simp at this; omega)
      unfold ArrAt
      rw [e2, e1, ← HS.out]
      exact heap_alloc_new _ _
    have HB2 := Lib.hid hb02
    clear hb2 hb02
    go_wp2_with (first
      | ((with_reducible show wpList _ _ _ (⟨none, .store 60 (.tmp 6) (.tmp 18), _, _, _, _⟩ :: _) _ _); refine wpList_store_row rfl 60 (.tmp 6) (.tmp 18) rfl w2.heap.size bs rfl rfl 60 _ (heap_alloc2_old _ _ _) HB0.out HSB.out HB1.out ?_)
      | ((with_reducible show wpList _ _ _ (⟨none, .store 60 (.tmp 7) (.tmp 19), _, _, _, _⟩ :: _) _ _); refine wpList_store_row rfl 60 (.tmp 7) (.tmp 19) rfl (w2.heap.size + 1) us rfl rfl 60 _ (setRow_next w2 (.cells zs 60) zs bs) HU0.out HSU.out HU1.out ?_)
      | ((with_reducible show wpList _ _ _ (⟨none, .store 60 (.tmp 8) (.tmp 20), _, _, _, _⟩ :: _) _ _); refine wpList_store_new rfl 60 (.tmp 8) (.tmp 20) rfl (w2.heap.size + 1 + 1) zs rfl rfl _ _ 60 (setRow_size2 w2 (.cells zs 60) (.cells zs 60) _ bs us) HZ0.out rfl HZ1.out ?_))
    go_loopw [9, 21] (fun _ kv wr => ∃ n : Nat, n ≤ 64 ∧ kv = .int .i64 n ∧ QtRel w w2 c q n wr) (fun _ kv _ => 64 - (intOf kv).toNat)
    case atStart => exact ⟨0, by omega, rfl, by rw [HBS.out, HUS.out, HS.out]; exact qtRel_start w w2 c q HB2.out.1 HB2.out.2⟩
    case round =>
      obtain ⟨n, hn, rfl, hr⟩ := hrel
      by_cases hn64 : n < 64
      · have hzl := zz_lt n hn64
        obtain ⟨hb0, hb1⟩ := base_bd c hc (zzAt n) hzl
        have hc1 := hr.u.cell n hn64
        have hc2 := hr.b.cell (zzAt n) hzl
        have hc3 := hr.a.cell n hn64
        have hf3 := hr.a.free n
        obtain ⟨z, hz'⟩ : ∃ z, z = zzAt n := ⟨_, rfl⟩
        rw [← hz'] at hzl hb0 hb1 hc1 hc2
        obtain ⟨x, hx⟩ : ∃ x, x = baseF c z := ⟨_, rfl⟩
        rw [← hx] at hb0 hb1 hc2
        obtain ⟨old, hold⟩ : ∃ z, z = upto (qt q c) 0 n n := ⟨_, rfl⟩
        rw [← hold] at hc3
        have hxk0 : 0 ≤ x * k := Int.mul_nonneg hb0 hs0
        have hxk1 : x * k ≤ 121 * 5000 := Int.mul_le_mul hb1 hs1 hs0 (by omega)
        have hv : qt q c n = min (max ((x * k + 50) / 100) 1) 255 := by unfold qt; rw [← hz', ← hx, HK.out]
        have HV := Lib.hid hv
        have HX := Lib.hid hx
        have N := Lib.hid (hr.next (qt q c n) rfl)
        clear hv hx hr hold hz'
        go_wp2_with fail
        go_roundw
        case rel =>
          refine ⟨n + 1, by omega, by go_num, ?_⟩
          have := N.out
          rw [HV.out, clamp_if] at this
          exact this
        case measure => simp [intOf]; omega
      · obtain rfl : n = 64 := by omega
        obtain ⟨cz, hcz⟩ : ∃ c', c' = arrC 64 (qt q c) := ⟨_, rfl⟩
        have hg1 : wr.heap[w2.heap.size + 1 + 1]? = some (.cells cz 60 (0, 0)) := by rw [hcz]; exact hr.a.congr (fun j hj => upto_all _ _ _ _ hj)
        have hg0 : wr.heap[w.heap.size]? = some (.cells zs 60 (0, 0)) := by rw [HS.out]; exact hr.r
        have hcs : cz.size = 64 := by rw [hcz]; exact arrC_size _ _
        have hzs : zs.size = cz.size := by rw [HS.out, hcs]; exact arrC_size _ _
        have HI := Lib.hid (info60.trans (congrArg some hcs.symm))
        have HC1 := Lib.hid (show cz.all (·.oneCell') = true by rw [hcz]; exact arrC_one _ _)
        have HG1 := Lib.hid hg1
        have HG0 := Lib.hid hg0
        have HZS := Lib.hid hzs
        have H4 := Lib.hid hr.k
        have HCZ := Lib.hid hcz
        clear hr hcz hg1 hg0 hcs hzs
        go_wp2_with (first
          | ((with_reducible show wpList _ _ _ (⟨_, .load 60 (.tmp 8), _, _, _, _⟩ :: _) _ _); refine wpList_load_row rfl 60 (.tmp 8) rfl (w2.heap.size + 1 + 1) rfl 60 cz (0, 0) _ HG1.out Tryd.underlying60 rfl HI.out ?_)
          | ((with_reducible show wpList _ _ _ (⟨none, .store 60 (.tmp 4) (.tmp 38), _, _, _, _⟩ :: _) _ _); refine wpList_store_row rfl 60 (.tmp 4) (.tmp 38) rfl w.heap.size cz rfl rfl 60 _ HG0.out HI.out HZS.out HC1.out ?_))
        refine bodyPost_ret (v := .agg cz) (results_cell_row rfl _ _ w.heap.size 60 cz (0, 0) _ rfl (setRow_heap _ _ _ _ _ _ HG0.out) Tryd.underlying60 rfl HI.out) rfl ⟨by rw [HCZ.out], ?_⟩
        exact Below_setRow H4.out (Nat.le_refl _) _
  · have hk : 200 - 2 * q = k := by rw [HK.out]; unfold scl; rw [if_neg h50]
    go_enter Tryd.func19, Tryd.ntmps19
    go_wp2_with fail
    refine (HB.out _).mono ?_
    rintro e w1 ⟨rfl, hb1⟩
    have HB1' := Lib.hid hb1
    clear hb1
    go_wp2_with fail
    refine (HZZ.out _).mono ?_
    rintro e w2 ⟨rfl, hb2⟩
    have hb02 : Below w.heap.size w w2 ∧ ArrAt w2 w.heap.size 60 64 (fun _ => 0) := by
      have h1 := HB1'.out
      refine ⟨((Below.refl _ _).alloc (Nat.le_refl _) _).trans ((h1.mono (by simp)).trans (hb2.mono (by have := h1.size; simp at this; omega))), ?_⟩
      have e1 := h1.block w.heap.size (by simp)
      have e2 := hb2.block w.heap.size (by have := h1.size; simp at this; omega)
      unfold ArrAt
      rw [e2, e1, ← HS.out]
      exact heap_alloc_new _ _
    have HB2 := Lib.hid hb02
    clear hb2 hb02
    go_wp2_with (first
      | ((with_reducible show wpList _ _ _ (⟨none, .store 60 (.tmp 6) (.tmp 18), _, _, _, _⟩ :: _) _ _); refine wpList_store_row rfl 60 (.tmp 6) (.tmp 18) rfl w2.heap.size bs rfl rfl 60 _ (heap_alloc2_old _ _ _) HB0.out HSB.out HB1.out ?_)
      | ((with_reducible show wpList _ _ _ (⟨none, .store 60 (.tmp 7) (.tmp 19), _, _, _, _⟩ :: _) _ _); refine wpList_store_row rfl 60 (.tmp 7) (.tmp 19) rfl (w2.heap.size + 1) us rfl rfl 60 _ (setRow_next w2 (.cells zs 60) zs bs) HU0.out HSU.out HU1.out ?_)
      | ((with_reducible show wpList _ _ _ (⟨none, .store 60 (.tmp 8) (.tmp 20), _, _, _, _⟩ :: _) _ _); refine wpList_store_new rfl 60 (.tmp 8) (.tmp 20) rfl (w2.heap.size + 1 + 1) zs rfl rfl _ _ 60 (setRow_size2 w2 (.cells zs 60) (.cells zs 60) _ bs us) HZ0.out rfl HZ1.out ?_))
    go_loopw [9, 21] (fun _ kv wr => ∃ n : Nat, n ≤ 64 ∧ kv = .int .i64 n ∧ QtRel w w2 c q n wr) (fun _ kv _ => 64 - (intOf kv).toNat)
    case atStart => exact ⟨0, by omega, rfl, by rw [HBS.out, HUS.out, HS.out]; exact qtRel_start w w2 c q HB2.out.1 HB2.out.2⟩
    case round =>
      obtain ⟨n, hn, rfl, hr⟩ := hrel
      by_cases hn64 : n < 64
      · have hzl := zz_lt n hn64
        obtain ⟨hb0, hb1⟩ := base_bd c hc (zzAt n) hzl
        have hc1 := hr.u.cell n hn64
        have hc2 := hr.b.cell (zzAt n) hzl
        have hc3 := hr.a.cell n hn64
        have hf3 := hr.a.free n
        obtain ⟨z, hz'⟩ : ∃ z, z = zzAt n := ⟨_, rfl⟩
        rw [← hz'] at hzl hb0 hb1 hc1 hc2
        obtain ⟨x, hx⟩ : ∃ x, x = baseF c z := ⟨_, rfl⟩
        rw [← hx] at hb0 hb1 hc2
        obtain ⟨old, hold⟩ : ∃ z, z = upto (qt q c) 0 n n := ⟨_, rfl⟩
        rw [← hold] at hc3
        have hxk0 : 0 ≤ x * k := Int.mul_nonneg hb0 hs0
        have hxk1 : x * k ≤ 121 * 5000 := Int.mul_le_mul hb1 hs1 hs0 (by omega)
        have hv : qt q c n = min (max ((x * k + 50) / 100) 1) 255 := by unfold qt; rw [← hz', ← hx, HK.out]
        have HV := Lib.hid hv
        have HX := Lib.hid hx
        have N := Lib.hid (hr.next (qt q c n) rfl)
        clear hv hx hr hold hz'
        go_wp2_with fail
        go_roundw
        case rel =>
          refine ⟨n + 1, by omega, by go_num, ?_⟩
          have := N.out
          rw [HV.out, clamp_if] at this
          exact this
        case measure => simp [intOf]; omega
      · obtain rfl : n = 64 := by omega
        obtain ⟨cz, hcz⟩ : ∃ c', c' = arrC 64 (qt q c) := ⟨_, rfl⟩
        have hg1 : wr.heap[w2.heap.size + 1 + 1]? = some (.cells cz 60 (0, 0)) := by rw [hcz]; exact hr.a.congr (fun j hj => upto_all _ _ _ _ hj)
        have hg0 : wr.heap[w.heap.size]? = some (.cells zs 60 (0, 0)) := by rw [HS.out]; exact hr.r
        have hcs : cz.size = 64 := by rw [hcz]; exact arrC_size _ _
        have hzs : zs.size = cz.size := by rw [HS.out, hcs]; exact arrC_size _ _
        have HI := Lib.hid (info60.trans (congrArg some hcs.symm))
        have HC1 := Lib.hid (show cz.all (·.oneCell') = true by rw [hcz]; exact arrC_one _ _)
        have HG1 := Lib.hid hg1
        have HG0 := Lib.hid hg0
        have HZS := Lib.hid hzs
        have H4 := Lib.hid hr.k
        have HCZ := Lib.hid hcz
        clear hr hcz hg1 hg0 hcs hzs
        go_wp2_with (first
          | ((with_reducible show wpList _ _ _ (⟨_, .load 60 (.tmp 8), _, _, _, _⟩ :: _) _ _); refine wpList_load_row rfl 60 (.tmp 8) rfl (w2.heap.size + 1 + 1) rfl 60 cz (0, 0) _ HG1.out Tryd.underlying60 rfl HI.out ?_)
          | ((with_reducible show wpList _ _ _ (⟨none, .store 60 (.tmp 4) (.tmp 38), _, _, _, _⟩ :: _) _ _); refine wpList_store_row rfl 60 (.tmp 4) (.tmp 38) rfl w.heap.size cz rfl rfl 60 _ HG0.out HI.out HZS.out HC1.out ?_))
        refine bodyPost_ret (v := .agg cz) (results_cell_row rfl _ _ w.heap.size 60 cz (0, 0) _ rfl (setRow_heap _ _ _ _ _ _ HG0.out) Tryd.underlying60 rfl HI.out) rfl ⟨by rw [HCZ.out], ?_⟩
        exact Below_setRow H4.out (Nat.le_refl _) _
theorem scaled0_any (w : World) (q : Int) (hq : 1 ≤ q ∧ q ≤ 100) : Calls Tryd.prog 19 #[.bool false, .int .i64 q] w fun e w' => e = .returned (.agg (arrC 64 (qt q 0))) ∧ Below w.heap.size w w' := scaled_of w false 0 (by omega) q hq base0_any
theorem scaled1_any (w : World) (q : Int) (hq : 1 ≤ q ∧ q ≤ 100) : Calls Tryd.prog 19 #[.bool true, .int .i64 q] w fun e w' => e = .returned (.agg (arrC 64 (qt q 1))) ∧ Below w.heap.size w w' := scaled_of w true 1 (by omega) q hq base1_any
end Go.Proofs.YtlibflbpajeeeaaDoor
