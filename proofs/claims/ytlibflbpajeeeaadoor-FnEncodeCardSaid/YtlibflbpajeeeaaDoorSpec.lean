/- The contract of theHuffmanSpec: the four literal tables. -/
import Derived.Test.YtlibflbpajeeeaaDoorJFile
import Derived.Great.BuildSlice
import Derived.Outline
namespace Go.Proofs.YtlibflbpajeeeaaDoor
open Go.RowKit

/-- One table's cells: its counts, the slice of its signs at block b. -/
def specRow (t b : Nat) : List Value := (cntL t).map u8v ++ [.slice (some ⟨b, 0, none⟩) (sgL t).length (sgL t).length]
def specC (b : Nat) : Array Value := (specRow 0 b ++ specRow 1 (b + 1) ++ specRow 2 (b + 2) ++ specRow 3 (b + 3)).toArray
theorem info134 : (Tryd.prog.info? 134).map (·.size) = some 68 := by kernel_rfl
theorem zero134 : ∀ w, (zeroValue 134).run Tryd.prog w = .ok (.agg (((Tryd.prog.info? 134).bind (·.zero)).getD undef).cells) w := by
  intro w
  kernel_rfl

theorem built134 (b : Nat) : Tryd.prog.built 134 [(0, .agg (specRow 0 b).toArray), (1, .agg (specRow 1 (b + 1)).toArray), (2, .agg (specRow 2 (b + 1 + 1)).toArray), (3, .agg (specRow 3 (b + 1 + 1 + 1)).toArray)] = some (specC b) := by kernel_rfl
theorem specC_size (b : Nat) : (specC b).size = 68 := by kernel_rfl
theorem specC_one (b : Nat) : (specC b).all (·.oneCell') = true := by kernel_rfl

/-- The world behind the four literals. -/
def specW (w : World) (zs : Array Value) (f1 f3 : List Int) : World :=
  ((((w.alloc (.cells zs 134)).alloc (.cells ((sgL 0).map (Value.int .u8)).toArray 5)).alloc (.cells (f1.map (Value.int .u8)).toArray 5)).alloc (.cells ((sgL 2).map (Value.int .u8)).toArray 5)).alloc (.cells (f3.map (Value.int .u8)).toArray 5)
theorem specW_0 (w : World) (zs : Array Value) (f1 f3 : List Int) : (specW w zs f1 f3).heap[w.heap.size]? = some (.cells zs 134 (0, 0)) := by
  unfold specW
  rw [_root_.Go.heap_alloc_old _ _ (by simp; omega), _root_.Go.heap_alloc_old _ _ (by simp; omega), _root_.Go.heap_alloc_old _ _ (by simp; omega), _root_.Go.heap_alloc_old _ _ (by simp)]
  exact heap_alloc_new _ _
theorem specW_below (w : World) (zs : Array Value) (f1 f3 : List Int) : Below w.heap.size w (specW w zs f1 f3) :=
  (((((Below.refl _ _).alloc (Nat.le_refl _) _).alloc (by simp) _).alloc (by simp; omega) _).alloc (by simp; omega) _).alloc (by simp; omega) _
theorem specW_row (w : World) (zs : Array Value) (f1 f3 : List Int) (h1 : f1 = sgL 1) (h3 : f3 = sgL 3) (t : Nat) (ht : t < 4) : RowAt (specW w zs f1 f3) 5 (.slice (some ⟨w.heap.size + 1 + t, 0, none⟩) (sgL t).length (sgL t).length) ((sgL t).map u8v) := by
  have lit : ∀ (W : World) (t : Nat), (sgL t).length ≤ 1000 → RowAt (W.alloc (.cells ((sgL t).map (Value.int .u8)).toArray 5)) 5 (.slice (some ⟨W.heap.size, 0, none⟩) (sgL t).length (sgL t).length) ((sgL t).map u8v) := fun W t hl => by
    have h := RowAt.lit W ((sgL t).map (Value.int .u8)).toArray 5 (by simp; omega)
    simp only [List.size_toArray, List.length_map] at h
    exact h
  have hlen := (std_total t ht).2.1
  subst h1 h3
  unfold specW
  match t, ht with
  | 0, _ =>
    have := lit (w.alloc (.cells zs 134)) 0 (by omega)
    rw [show (w.alloc (.cells zs 134)).heap.size = w.heap.size + 1 + 0 by simp] at this
    exact ((this.alloc _).alloc _).alloc _
  | 1, _ =>
    have := lit ((w.alloc (.cells zs 134)).alloc (.cells ((sgL 0).map (Value.int .u8)).toArray 5)) 1 (by omega)
    rw [show ((w.alloc (.cells zs 134)).alloc (.cells ((sgL 0).map (Value.int .u8)).toArray 5)).heap.size = w.heap.size + 1 + 1 by simp] at this
    exact (this.alloc _).alloc _
  | 2, _ =>
    have := lit (((w.alloc (.cells zs 134)).alloc (.cells ((sgL 0).map (Value.int .u8)).toArray 5)).alloc (.cells ((sgL 1).map (Value.int .u8)).toArray 5)) 2 (by omega)
    rw [show (((w.alloc (.cells zs 134)).alloc (.cells ((sgL 0).map (Value.int .u8)).toArray 5)).alloc (.cells ((sgL 1).map (Value.int .u8)).toArray 5)).heap.size = w.heap.size + 1 + 2 by simp] at this
    exact this.alloc _
  | 3, _ =>
    have := lit ((((w.alloc (.cells zs 134)).alloc (.cells ((sgL 0).map (Value.int .u8)).toArray 5)).alloc (.cells ((sgL 1).map (Value.int .u8)).toArray 5)).alloc (.cells ((sgL 2).map (Value.int .u8)).toArray 5)) 3 (by omega)
    rw [show ((((w.alloc (.cells zs 134)).alloc (.cells ((sgL 0).map (Value.int .u8)).toArray 5)).alloc (.cells ((sgL 1).map (Value.int .u8)).toArray 5)).alloc (.cells ((sgL 2).map (Value.int .u8)).toArray 5)).heap.size = w.heap.size + 1 + 3 by simp] at this
    exact this

set_option maxRecDepth 100000 in
set_option maxHeartbeats 1000000 in
theorem spec_any (w : World) : Calls Tryd.prog 51 #[] w fun e w' => e = .returned (.agg (specC (w.heap.size + 1))) ∧ Below w.heap.size w w' ∧ ∀ t, t < 4 → RowAt w' 5 (.slice (some ⟨w.heap.size + 1 + t, 0, none⟩) (sgL t).length (sgL t).length) ((sgL t).map u8v) := by
  have hz := zero134
  obtain ⟨zs, hzs⟩ : ∃ zs, zs = (((Tryd.prog.info? 134).bind (·.zero)).getD undef).cells := ⟨_, rfl⟩
  rw [← hzs] at hz
  obtain ⟨f1, hf1⟩ : ∃ f, f = sgL 1 := ⟨_, rfl⟩
  obtain ⟨f3, hf3⟩ : ∃ f, f = sgL 3 := ⟨_, rfl⟩
  have hl1 : f1.length = 162 := by rw [hf1]; rfl
  have hl3 : f3.length = 162 := by rw [hf3]; rfl
  have HP1 : RowKit.Hid (∀ l : List (Nat × Operand), l = ((sgL 1).zipIdx 0).map (fun x => (x.2, Operand.const (Value.int .u8 x.1))) → l = (f1.zipIdx 0).map fun x => (x.2, Operand.const (Value.int .u8 x.1))) := fun l h => by rw [h, ← hf1]
  have HP3 : RowKit.Hid (∀ l : List (Nat × Operand), l = ((sgL 3).zipIdx 0).map (fun x => (x.2, Operand.const (Value.int .u8 x.1))) → l = (f3.zipIdx 0).map fun x => (x.2, Operand.const (Value.int .u8 x.1))) := fun l h => by rw [h, ← hf3]
  have HZS := Lib.hid hzs
  have HL1 := Lib.hid hl1
  have HL3 := Lib.hid hl3
  have HF1 := Lib.hid hf1
  have HF3 := Lib.hid hf3
  have HZ := Lib.hid (show zs.size = (specC (w.heap.size + 1)).size by rw [specC_size, hzs]; kernel_rfl)
  have HI := Lib.hid (show (Tryd.prog.info? 134).map (·.size) = some (specC (w.heap.size + 1)).size by rw [specC_size]; exact info134)
  clear hzs hf1 hf3 hl1 hl3
  go_enter Tryd.func51, Tryd.ntmps51
  go_wp2_with (first
    | ((with_reducible show wpList _ _ _ (⟨some 5, .buildSlice 32 162 _, _, _, _, _⟩ :: _) _ _); refine wpList_buildFlat rfl 32 5 162 _ rfl .u8 f1 Tryd.underlying32 (by kernel_rfl) (by kernel_rfl) HL1.out.symm (by decide) (by decide) (HP1.out _ (by rfl)) ?_)
    | ((with_reducible show wpList _ _ _ (⟨some 11, .buildSlice 32 162 _, _, _, _, _⟩ :: _) _ _); refine wpList_buildFlat rfl 32 5 162 _ rfl .u8 f3 Tryd.underlying32 (by kernel_rfl) (by kernel_rfl) HL3.out.symm (by decide) (by decide) (HP3.out _ (by rfl)) ?_)
    | ((with_reducible show wpList _ _ _ (⟨some 13, .build 134 _, _, _, _, _⟩ :: _) _ _); refine wpList_buildTo rfl 134 _ rfl _ rfl (specC (w.heap.size + 1)) (by kernel_rfl) ?_)
    | ((with_reducible show wpList _ _ _ (⟨none, .store 134 (.tmp 0) (.tmp 13), _, _, _, _⟩ :: _) _ _); refine wpList_store_row rfl 134 (.tmp 0) (.tmp 13) rfl w.heap.size (specC (w.heap.size + 1)) rfl rfl 134 zs (specW_0 w zs f1 f3) HI.out HZ.out (specC_one _) ?_))
  refine bodyPost_ret (v := .agg (specC (w.heap.size + 1))) (results_cell_row rfl _ _ w.heap.size 134 _ (0, 0) _ rfl (setRow_heap _ _ _ _ _ _ (specW_0 w zs f1 f3)) Tryd.underlying134 rfl HI.out) rfl ⟨rfl, ?_, ?_⟩
  · exact Below_setRow (specW_below w zs f1 f3) (Nat.le_refl _) _
  · intro t ht
    refine (specW_row w zs f1 f3 HF1.out HF3.out t ht).same fun g hg => ?_
    simp [Value.ownBlock] at hg
    exact setRow_other _ _ _ _ (by omega)
end Go.Proofs.YtlibflbpajeeeaaDoor
