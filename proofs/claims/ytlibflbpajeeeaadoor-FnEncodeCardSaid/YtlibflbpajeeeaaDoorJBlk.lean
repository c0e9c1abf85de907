/- Small laws on blocks of memory that a call lays itself, and the contract of impl.fits: 64 numbers within 2^20 fit. The contracts of the transforms: what impl.Forward and what it calls leave, over a block of 64 numbers: the plain steps of Pl. Conditions: 64 int32 numbers; of impl's door, that each lies within 2^20. (Joined by wip/gen/merge.py.) -/
import Derived.Test.YtlibflbpajeeeaaDoorRows
import Derived.Test.YtlibflbpajeeeaaDoorJPl
import Derived.WalkKit
import Derived.Lib.Hide
import Derived.Deep.WholeRow
import Derived.Deep.MidRow
import Derived.Test.YtlibflbpajeeeaaDoorJFcol
namespace Go.Proofs.YtlibflbpajeeeaaDoor
open Go.RowKit Go.Sort

theorem holds_put (w : World) (b : Nat) (d d' : Array Int) (h : Holds i32v w b 0 d) (hs : d'.size = d.size) : Holds i32v (putRow i32v w b 0 d') b 0 d' := holds_putRow i32v w b 0 d d' h hs

theorem getElem?_map_i32v (d : Array Int) (j : Nat) (hj : j < d.size) : (d.map i32v)[j]? = some (.int .i32 d[j]!) := by
  rw [Array.getElem?_map, Array.getElem?_eq_getElem hj, getElem!_pos d j hj]; rfl

theorem holds_new (W : World) (d : Array Int) (t : TypeId) : Holds i32v (W.alloc (.cells (d.map i32v) t)) W.heap.size 0 d := by
  intro j hj
  constructor
  · rw [cell_of_row _ _ _ _ t (0, 0) (heap_alloc_new W _), Nat.zero_add]
    exact getElem?_map_i32v d j hj
  · exact frozen_of_row _ _ _ _ t (heap_alloc_new W _)

theorem putRow_new (W : World) (d d' : Array Int) (t : TypeId) (hs : d'.size = d.size) : putRow i32v (W.alloc (.cells (d.map i32v) t)) W.heap.size 0 d' = W.alloc (.cells (d'.map i32v) t) := by
  unfold putRow mapBlock
  have hh : (W.alloc (.cells (d.map i32v) t)).heap = W.heap.push (.cells (d.map i32v) t) := rfl
  show ({ (W.alloc (.cells (d.map i32v) t)) with heap := (W.alloc (.cells (d.map i32v) t)).heap.modify W.heap.size (onCells (putCells i32v 0 d')) } : World) = { W with heap := W.heap.push (.cells (d'.map i32v) t) }
  rw [hh]
  have e : (W.heap.push (.cells (d.map i32v) t)).modify W.heap.size (onCells (putCells i32v 0 d')) = W.heap.push (.cells (d'.map i32v) t) := by
    apply Array.ext_getElem?
    intro i
    rw [Array.getElem?_modify]
    by_cases h : W.heap.size = i
    · subst h
      simp only [if_true, Array.getElem?_push_size, Option.map_some, onCells, Option.some.injEq, Obj.cells.injEq, and_true]
      apply Array.ext_getElem?
      intro k
      simp only [putCells, Array.getElem?_mapIdx, Array.getElem?_map]
      by_cases hk : k < d.size
      · have hk' : k < d'.size := by omega
        rw [Array.getElem?_eq_getElem hk, Array.getElem?_eq_getElem hk', Option.map_some, Option.map_some, Option.map_some, if_pos ⟨by omega, by omega⟩, Nat.sub_zero, getElem!_pos d' k hk']
      · have hk' : ¬ k < d'.size := by omega
        rw [Array.getElem?_eq_none (by omega), Array.getElem?_eq_none (by omega)]
        rfl
    · rw [if_neg h, Array.getElem?_push, Array.getElem?_push, if_neg (fun x => h x.symm), if_neg (fun x => h x.symm)]
  rw [e]
  rfl

theorem one_map {c : Array Value} {d : Array Int} (h : c = d.map i32v) : c.all (·.oneCell') = true := by
  subst h
  rw [Array.all_eq_true_iff_forall_mem]
  intro v hv
  rw [Array.mem_map] at hv
  obtain ⟨x, _, rfl⟩ := hv
  rfl

theorem size_alloc2 (w : World) (A B : Obj) : w.heap.size + 1 + 1 = ((w.alloc A).alloc B).heap.size := by simp
theorem heap_alloc3_new (w : World) (A B C : Obj) : (((w.alloc A).alloc B).alloc C).heap[w.heap.size + 1 + 1]? = some C := by
  rw [size_alloc2 w A B]; exact heap_alloc_new _ _
theorem heap_alloc3_mid (w : World) (A B C : Obj) : (((w.alloc A).alloc B).alloc C).heap[w.heap.size + 1]? = some B := by
  rw [_root_.Go.heap_alloc_old _ _ (by simp)]; exact heap_alloc2_new _ _ _
theorem heap_alloc3_old (w : World) (A B C : Obj) : (((w.alloc A).alloc B).alloc C).heap[w.heap.size]? = some A := by
  rw [_root_.Go.heap_alloc_old _ _ (by simp; omega)]; exact heap_alloc2_old _ _ _

theorem Below_setRow {B : Nat} {a w : World} (h : Below B a w) {g : Nat} (hg : B ≤ g) (cs : Array Value) : Below B a (w.setRow g cs) :=
  h.trans ⟨rfl, rfl, rfl, by simp, fun k hk => setRow_other _ _ _ _ (by omega)⟩

/-- A whole array into the block that was laid last, wherever the walk spells its number. -/
theorem wpList_store_new {P : Program} {ops : Array Oper} {rest : List Oper} {o : Oper} {a : Act} {Q : Exit → Act → World → Prop} (hgd : o.guard = none) (ty : TypeId) (x y : Operand) (ho : o.op = .store ty x y)
    (g : Nat) (cells : Array Value) (hx : a.eval x = .pointer (some ⟨g, 0, none⟩)) (hy : a.eval y = .agg cells)
    (W : World) (old : Array Value) (t : TypeId) (hg : g = W.heap.size) (hi : (P.info? ty).map (·.size) = some cells.size)
    (hold : old.size = cells.size) (h1 : cells.all (·.oneCell') = true)
    (h : wpList P ops Q rest (a.put o.dst undef) (W.alloc (.cells cells t))) : wpList P ops Q (o :: rest) a (W.alloc (.cells old t)) := by
  subst hg
  refine wpList_store_row hgd ty x y ho W.heap.size cells hx hy t old (heap_alloc_new W _) hi hold h1 ?_
  rw [World.setRow_alloc_new]
  exact h

/-- A number out of a block by value. -/
theorem index79 (c : Array Value) (k : Nat) (hk : k < 64) (v : Value) (hc : c[k]? = some v) (w : World) :
    (Instr.index 79 (.agg c) (.int .i64 (k : Int))).run Tryd.prog w = .ok v w := by
  have hu : Tryd.prog.underlying 79 = some (.array 64 21) := by kernel_rfl
  have hs : (sizeOf 21).run Tryd.prog w = .ok 1 w := by kernel_rfl
  simp [Instr.index, asIntOf, run_underlying hu, hs, part, hc]
  intro h
  omega

set_option maxRecDepth 100000 in
set_option maxHeartbeats 4000000 in
theorem fits_any (d : Array Int) (c : Array Value) (w : World) (hd : c.size = 64) (hc : ∀ j, j < 64 → c[j]? = some (.int .i32 d[j]!)) (hf : ∀ j, j < 64 → (-1048576 : Int) ≤ d[j]! ∧ d[j]! ≤ (1048576 : Int)) :
    Calls Tryd.prog 31 #[.agg c] w fun e w' => e = .returned (.bool true) ∧ w' = w.alloc (.cells c 79) := by
  go_enter Tryd.func31, Tryd.ntmps31
  have HD := Lib.hid hd
  clear hd
  have hz : (Tryd.prog.info? 79).map (·.size) = some c.size := by rw [HD.out]; kernel_rfl
  have HZ := Lib.hid hz
  clear hz
  have hg := Lib.hid (heap_alloc_new w (.cells c 79))
  go_wp2_with (refine wpList_load_row rfl 79 (.tmp 1) rfl w.heap.size rfl 79 c (0, 0) _ hg.out Tryd.underlying79 rfl HZ.out ?_)
  go_loop [6] (fun i => ∃ k : Nat, k ≤ 64 ∧ i = .int .i64 k) (fun i => 64 - (intOf i).toNat)
  case atStart => exact ⟨0, Nat.zero_le _, rfl⟩
  case round =>
    obtain ⟨k, hk, rfl⟩ := hrel
    by_cases hlt : k < 64
    · obtain ⟨hf1, hf2⟩ := hf k hlt
      have hix := index79 c k hlt _ (hc k hlt)
      obtain ⟨x, hx⟩ : ∃ x, x = d[k]! := ⟨_, rfl⟩
      rw [← hx] at hf1 hf2 hix
      have HX := Lib.hid hx
      clear hx hc hf
      go_wp2
      go_round
      case rel => exact ⟨k + 1, by omega, by go_num⟩
      case measure => simp [intOf]; omega
    · have hk8 : k = 64 := by omega
      subst hk8
      clear hc hf
      go_wp2
      go_ret
      exact ⟨rfl, rfl⟩
end Go.Proofs.YtlibflbpajeeeaaDoor

namespace Go.Proofs.YtlibflbpajeeeaaDoor
open Go.RowKit Go.Sort

set_option maxHeartbeats 400000 in
theorem fdct_any (b : Nat) (d : Array Int) (w : World) (hd : d.size = 64) (hh : Holds i32v w b 0 d) :
    Calls Tryd.prog 50 #[.pointer (some ⟨b, 0, none⟩)] w fun e w' => e = .returned (.tuple #[]) ∧ w' = putRow i32v w b 0 (frowsA (fcolsA d)) := by
  have HH := Lib.hid hh
  have HD := Lib.hid hd
  clear hh hd
  go_enter Tryd.func50, Tryd.ntmps50
  go_wp2_with fail
  refine (fcol_any b d _ HD.out HH.out).mono ?_
  rintro e w1 ⟨rfl, hw1⟩
  have HW1 := Lib.hid hw1
  clear hw1
  go_wp2_with fail
  refine (frow_any b (fcolsA d) w1 (by unfold fcolsA; rw [size_steps]; exact HD.out) (by rw [HW1.out]; exact holds_put w b d _ HH.out (by unfold fcolsA; rw [size_steps]))).mono ?_
  rintro e w2 ⟨rfl, hw2⟩
  have HW2 := Lib.hid hw2
  clear hw2
  go_wp2_with fail
  go_end0
  refine ⟨rfl, ?_⟩
  rw [HW2.out, HW1.out]
  exact putRow_putRow _ _ _ _ _ _ (by unfold frowsA; rw [size_steps])

/-- The same over a block that was laid last. -/
theorem fdct_new (d : Array Int) (W : World) (B : Nat) (hB : B = W.heap.size) (c : Array Value) (hc : c = d.map i32v) (hd : d.size = 64) :
    Calls Tryd.prog 50 #[.pointer (some ⟨B, 0, none⟩)] (W.alloc (.cells c 126)) fun e w' => e = .returned (.tuple #[]) ∧ w' = W.alloc (.cells ((frowsA (fcolsA d)).map i32v) 126) := by
  subst hB hc
  refine (fdct_any W.heap.size d _ hd (holds_new W d 126)).mono ?_
  rintro e w' ⟨rfl, rfl⟩
  exact ⟨rfl, putRow_new W d _ 126 (by unfold frowsA fcolsA; rw [size_steps, size_steps])⟩

set_option maxRecDepth 100000 in
set_option maxHeartbeats 1000000 in
theorem zzforward_any (d : Array Int) (w : World) (hd : d.size = 64) :
    Calls Tryd.prog 32 #[.agg (d.map i32v)] w fun e w' => e = .returned (.agg ((frowsA (fcolsA d)).map i32v)) ∧ Below w.heap.size w w' := by
  obtain ⟨c, hc⟩ : ∃ c, c = d.map i32v := ⟨_, rfl⟩
  obtain ⟨c', hc'⟩ : ∃ c', c' = (frowsA (fcolsA d)).map i32v := ⟨_, rfl⟩
  have hs : c.size = 64 := by rw [hc, Array.size_map, hd]
  have hs' : c'.size = 64 := by rw [hc', Array.size_map]; unfold frowsA fcolsA; rw [size_steps, size_steps, hd]
  have hz : (Tryd.prog.info? 79).map (·.size) = some 64 := by kernel_rfl
  have hz44 : (Tryd.prog.info? 126).map (·.size) = some 64 := by kernel_rfl
  rw [← hc, ← hc']
  have HC := Lib.hid hc
  have HC' := Lib.hid hc'
  have HD := Lib.hid hd
  have HZ := Lib.hid (hz.trans (congrArg some hs.symm))
  have HZ' := Lib.hid (hz.trans (congrArg some hs'.symm))
  have HZ44 := Lib.hid (hz44.trans (congrArg some hs.symm))
  have HZ44' := Lib.hid (hz44.trans (congrArg some hs'.symm))
  have HS := Lib.hid hs.symm
  have HS' := Lib.hid hs'.symm
  have H1 := Lib.hid (one_map hc)
  have H1' := Lib.hid (one_map hc')
  clear hc hc' hd hz hz44 hs hs'
  go_enter Tryd.func32, Tryd.ntmps32
  go_wp2_with (first
    | (refine wpList_load_row rfl 79 (.tmp 1) rfl w.heap.size rfl 79 c (0, 0) _ (heap_alloc2_old _ _ _) Tryd.underlying79 rfl HZ.out ?_)
    | (refine wpList_store_new rfl 126 (.tmp 3) (.tmp 4) rfl (w.heap.size + 1 + 1) c rfl rfl _ _ 126 (size_alloc2 _ _ _) HZ44.out HS.out H1.out ?_))
  refine (fdct_new d _ _ (size_alloc2 _ _ _) c HC.out HD.out).mono ?_
  rw [← HC'.out]
  rintro e w1 ⟨rfl, rfl⟩
  go_wp2_with (first
    | (refine wpList_load_row rfl 126 (.tmp 3) rfl (w.heap.size + 1 + 1) rfl 126 c' (0, 0) _ (heap_alloc3_new _ _ _ _) Tryd.underlying126 rfl HZ44'.out ?_)
    | (refine wpList_store_row rfl 79 (.tmp 2) (.tmp 6) rfl (w.heap.size + 1) c' rfl rfl 79 _ (heap_alloc3_mid _ _ _ _) HZ'.out HS'.out H1'.out ?_))
  refine bodyPost_ret (v := .agg c') (results_cell_row rfl _ _ (w.heap.size + 1) 79 c' (0, 0) _ rfl (setRow_heap _ _ _ _ _ _ (heap_alloc3_mid _ _ _ _)) Tryd.underlying79 rfl HZ'.out) rfl ⟨rfl, ?_⟩
  exact Below_setRow ((((Below.refl _ _).alloc (Nat.le_refl _) _).alloc (by simp) _).alloc (by simp; omega) _) (by omega) _

set_option maxRecDepth 100000 in
set_option maxHeartbeats 1000000 in
theorem forward_any (d : Array Int) (w : World) (hd : d.size = 64) (hf : ∀ j, j < 64 → (-1048576 : Int) ≤ d[j]! ∧ d[j]! ≤ (1048576 : Int)) :
    Calls Tryd.prog 13 #[.agg (d.map i32v)] w fun e w' => e = .returned (.agg ((frowsA (fcolsA d)).map i32v)) ∧ Below w.heap.size w w' := by
  obtain ⟨c, hc⟩ : ∃ c, c = d.map i32v := ⟨_, rfl⟩
  obtain ⟨c', hc'⟩ : ∃ c', c' = (frowsA (fcolsA d)).map i32v := ⟨_, rfl⟩
  have hs : c.size = 64 := by rw [hc, Array.size_map, hd]
  have hs' : c'.size = 64 := by rw [hc', Array.size_map]; unfold frowsA fcolsA; rw [size_steps, size_steps, hd]
  have hz : (Tryd.prog.info? 79).map (·.size) = some 64 := by kernel_rfl
  have hzz := zzforward_any d
  rw [← hc'] at hzz
  rw [← hc] at hzz
  rw [← hc, ← hc']
  have HZZ := Lib.hid (fun w => hzz w hd)
  have HF := Lib.hid (fun w => fits_any d c w hs (fun j hj => by rw [hc]; exact getElem?_map_i32v d j (by omega)) hf)
  have HZ := Lib.hid (hz.trans (congrArg some hs.symm))
  have HZ' := Lib.hid (hz.trans (congrArg some hs'.symm))
  have HS' := Lib.hid hs'.symm
  have H1' := Lib.hid (one_map hc')
  clear hc hc' hd hz hs hs' hf hzz
  go_enter Tryd.func13, Tryd.ntmps13
  go_wp2_with (refine wpList_load_row rfl 79 (.tmp 1) rfl w.heap.size rfl 79 c (0, 0) _ (heap_alloc2_old _ _ _) Tryd.underlying79 rfl HZ.out ?_)
  refine (HF.out _).mono ?_
  rintro e w1 ⟨rfl, rfl⟩
  go_wp2_with (refine wpList_load_row rfl 79 (.tmp 1) rfl w.heap.size rfl 79 c (0, 0) _ (heap_alloc3_old _ _ _ _) Tryd.underlying79 rfl HZ.out ?_)
  refine (HZZ.out _).mono ?_
  rintro e w2 ⟨rfl, hb⟩
  have HB := Lib.hid hb
  have hm := Lib.hid ((hb.block (w.heap.size + 1) (by simp)).trans (heap_alloc3_mid _ _ _ _))
  clear hb
  go_wp2_with (refine wpList_store_row rfl 79 (.tmp 2) (.tmp 8) rfl (w.heap.size + 1) c' rfl rfl 79 _ hm.out HZ'.out HS'.out H1'.out ?_)
  refine bodyPost_ret (v := .agg c') (results_cell_row rfl _ _ (w.heap.size + 1) 79 c' (0, 0) _ rfl (setRow_heap _ _ _ _ _ _ hm.out) Tryd.underlying79 rfl HZ'.out) rfl ⟨rfl, ?_⟩
  exact Below_setRow (((((Below.refl _ _).alloc (Nat.le_refl _) _).alloc (by simp) _).alloc (by simp; omega) _).trans (HB.out.mono (by simp; omega))) (by omega) _

end Go.Proofs.YtlibflbpajeeeaaDoor
