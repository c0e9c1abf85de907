/- Small laws on blocks of memory that a call lays itself, and the contract of impl.fits: 64 numbers within 2^20 fit. -/
import Derived.Test.YtlibflbpajeeeaaRows
import Derived.Test.YtlibflbpajeeeaaPl
import Derived.WalkKit
import Derived.Lib.Hide
import Derived.Deep.WholeRow
import Derived.Deep.MidRow
namespace Go.Proofs.Ytlibflbpajeeeaa
open Go.RowKit Go.Sort

theorem holds_put (w : World) (b : Nat) (d d' : Array Int) (h : Holds i32v w b 0 d) (hs : d'.size = d.size) : Holds i32v (putRow i32v w b 0 d') b 0 d' := holds_putRow i32v w b 0 d d' h hs

theorem getElem?_map_i32v (d : Array Int) (j : Nat) (hj : j < d.size) : (d.map i32v)[j]? = some (.int .i32 d[j]!) := by
  rw [Array.getElem?_map, Array.getElem?_eq_getElem hj, getElem!_pos d j hj]; rfl

theorem holds_new (W : World) (d : Array Int) (t : TypeId) : Holds i32v (W.alloc (.cells (d.map i32v) t)) W.heap.size 0 d := by
  intro j hj
  constructor
  · rw [cell_of_row _ _ _ _ t (0, 0) (heap_alloc_new W _), Nat.zero_add]
    exact getElem?_map_i32v d j hj
  · exact frozen_of_row _ _ _ _ t (heap_alloc_new W _)

theorem putRow_new (W : World) (d d' : Array Int) (t : TypeId) (hs : d'.size = d.size) : putRow i32v (W.alloc (.cells (d.map i32v) t)) W.heap.size 0 d' = W.alloc (.cells (d'.map i32v) t) := by
  unfold putRow mapBlock
  have hh : (W.alloc (.cells (d.map i32v) t)).heap = W.heap.push (.cells (d.map i32v) t) := rfl
  show ({ (W.alloc (.cells (d.map i32v) t)) with heap := (W.alloc (.cells (d.map i32v) t)).heap.modify W.heap.size (onCells (putCells i32v 0 d')) } : World) = { W with heap := W.heap.push (.cells (d'.map i32v) t) }
  rw [hh]
  have e : (W.heap.push (.cells (d.map i32v) t)).modify W.heap.size (onCells (putCells i32v 0 d')) = W.heap.push (.cells (d'.map i32v) t) := by
    apply Array.ext_getElem?
    intro i
    rw [Array.getElem?_modify]
    by_cases h : W.heap.size = i
    · subst h
      simp only [if_true, Array.getElem?_push_size, Option.map_some, onCells, Option.some.injEq, Obj.cells.injEq, and_true]
      apply Array.ext_getElem?
      intro k
      simp only [putCells, Array.getElem?_mapIdx, Array.getElem?_map]
      by_cases hk : k < d.size
      · have hk' : k < d'.size := by omega
        rw [Array.getElem?_eq_getElem hk, Array.getElem?_eq_getElem hk', Option.map_some, Option.map_some, Option.map_some, if_pos ⟨by omega, by omega⟩, Nat.sub_zero, getElem!_pos d' k hk']
      · have hk' : ¬ k < d'.size := by omega
        rw [Array.getElem?_eq_none (by omega), Array.getElem?_eq_none (by omega)]
        rfl
    · rw [if_neg h, Array.getElem?_push, Array.getElem?_push, if_neg (fun x => h x.symm), if_neg (fun x => h x.symm)]
  rw [e]
  rfl

theorem one_map {c : Array Value} {d : Array Int} (h : c = d.map i32v) : c.all (·.oneCell') = true := by
  subst h
  rw [Array.all_eq_true_iff_forall_mem]
  intro v hv
  rw [Array.mem_map] at hv
  obtain ⟨x, _, rfl⟩ := hv
  rfl

theorem size_alloc2 (w : World) (A B : Obj) : w.heap.size + 1 + 1 = ((w.alloc A).alloc B).heap.size := by simp
theorem heap_alloc3_new (w : World) (A B C : Obj) : (((w.alloc A).alloc B).alloc C).heap[w.heap.size + 1 + 1]? = some C := by
  rw [size_alloc2 w A B]; exact heap_alloc_new _ _
theorem heap_alloc3_mid (w : World) (A B C : Obj) : (((w.alloc A).alloc B).alloc C).heap[w.heap.size + 1]? = some B := by
  rw [_root_.Go.heap_alloc_old _ _ (by simp)]; exact heap_alloc2_new _ _ _
theorem heap_alloc3_old (w : World) (A B C : Obj) : (((w.alloc A).alloc B).alloc C).heap[w.heap.size]? = some A := by
  rw [_root_.Go.heap_alloc_old _ _ (by simp; omega)]; exact heap_alloc2_old _ _ _

theorem Below_setRow {B : Nat} {a w : World} (h : Below B a w) {g : Nat} (hg : B ≤ g) (cs : Array Value) : Below B a (w.setRow g cs) :=
  h.trans ⟨rfl, rfl, rfl, by simp, fun k hk => setRow_other _ _ _ _ (by omega)⟩

/-- A whole array into the block that was laid last, wherever the walk spells its number. -/
theorem wpList_store_new {P : Program} {ops : Array Oper} {rest : List Oper} {o : Oper} {a : Act} {Q : Exit → Act → World → Prop} (hgd : o.guard = none) (ty : TypeId) (x y : Operand) (ho : o.op = .store ty x y)
    (g : Nat) (cells : Array Value) (hx : a.eval x = .pointer (some ⟨g, 0, none⟩)) (hy : a.eval y = .agg cells)
    (W : World) (old : Array Value) (t : TypeId) (hg : g = W.heap.size) (hi : (P.info? ty).map (·.size) = some cells.size)
    (hold : old.size = cells.size) (h1 : cells.all (·.oneCell') = true)
    (h : wpList P ops Q rest (a.put o.dst undef) (W.alloc (.cells cells t))) : wpList P ops Q (o :: rest) a (W.alloc (.cells old t)) := by
  subst hg
  refine wpList_store_row hgd ty x y ho W.heap.size cells hx hy t old (heap_alloc_new W _) hi hold h1 ?_
  rw [World.setRow_alloc_new]
  exact h

/-- A number out of a block by value. -/
theorem index29 (c : Array Value) (k : Nat) (hk : k < 64) (v : Value) (hc : c[k]? = some v) (w : World) :
    (Instr.index 29 (.agg c) (.int .i64 (k : Int))).run Try.prog w = .ok v w := by
  have hu : Try.prog.underlying 29 = some (.array 64 21) := by kernel_rfl
  have hs : (sizeOf 21).run Try.prog w = .ok 1 w := by kernel_rfl
  simp [Instr.index, asIntOf, run_underlying hu, hs, part, hc]
  intro h
  omega

set_option maxRecDepth 100000 in
set_option maxHeartbeats 4000000 in
theorem fits_any (d : Array Int) (c : Array Value) (w : World) (hd : c.size = 64) (hc : ∀ j, j < 64 → c[j]? = some (.int .i32 d[j]!)) (hf : ∀ j, j < 64 → (-1048576 : Int) ≤ d[j]! ∧ d[j]! ≤ (1048576 : Int)) :
    Calls Try.prog 15 #[.agg c] w fun e w' => e = .returned (.bool true) ∧ w' = w.alloc (.cells c 29) := by
  go_enter Try.func15, Try.ntmps15
  have HD := Lib.hid hd
  clear hd
  have hz : (Try.prog.info? 29).map (·.size) = some c.size := by rw [HD.out]; kernel_rfl
  have HZ := Lib.hid hz
  clear hz
  have hg := Lib.hid (heap_alloc_new w (.cells c 29))
  go_wp2_with (refine wpList_load_row rfl 29 (.tmp 1) rfl w.heap.size rfl 29 c (0, 0) _ hg.out Try.underlying29 rfl HZ.out ?_)
  go_loop [6] (fun i => ∃ k : Nat, k ≤ 64 ∧ i = .int .i64 k) (fun i => 64 - (intOf i).toNat)
  case atStart => exact ⟨0, Nat.zero_le _, rfl⟩
  case round =>
    obtain ⟨k, hk, rfl⟩ := hrel
    by_cases hlt : k < 64
    · obtain ⟨hf1, hf2⟩ := hf k hlt
      have hix := index29 c k hlt _ (hc k hlt)
      obtain ⟨x, hx⟩ : ∃ x, x = d[k]! := ⟨_, rfl⟩
      rw [← hx] at hf1 hf2 hix
      have HX := Lib.hid hx
      clear hx hc hf
      go_wp2
      go_round
      case rel => exact ⟨k + 1, by omega, by go_num⟩
      case measure => simp [intOf]; omega
    · have hk8 : k = 64 := by omega
      subst hk8
      clear hc hf
      go_wp2
      go_ret
      exact ⟨rfl, rfl⟩
end Go.Proofs.Ytlibflbpajeeeaa
