/- The contracts of the transforms: what impl.Inverse and what it calls leave, over a block of 64 numbers: the plain steps of Pl. Conditions: 64 int32 numbers; of impl's door, that each lies within 2^20. -/
import Derived.Test.YtlibflbpajeeeaaBlk
import Derived.Test.YtlibflbpajeeeaaIrow
import Derived.Test.YtlibflbpajeeeaaIcol
namespace Go.Proofs.Ytlibflbpajeeeaa
open Go.RowKit Go.Sort

set_option maxHeartbeats 400000 in
theorem idct_any (b : Nat) (d : Array Int) (w : World) (hd : d.size = 64) (hh : Holds i32v w b 0 d) :
    Calls Try.prog 21 #[.pointer (some ⟨b, 0, none⟩)] w fun e w' => e = .returned (.tuple #[]) ∧ w' = putRow i32v w b 0 (icolsA (irowsA d)) := by
  have HH := Lib.hid hh
  have HD := Lib.hid hd
  clear hh hd
  go_enter Try.func21, Try.ntmps21
  go_wp2_with fail
  refine (irow_any b d _ HD.out HH.out).mono ?_
  rintro e w1 ⟨rfl, hw1⟩
  have HW1 := Lib.hid hw1
  clear hw1
  go_wp2_with fail
  refine (icol_any b (irowsA d) w1 (by unfold irowsA; rw [size_steps]; exact HD.out) (by rw [HW1.out]; exact holds_put w b d _ HH.out (by unfold irowsA; rw [size_steps]))).mono ?_
  rintro e w2 ⟨rfl, hw2⟩
  have HW2 := Lib.hid hw2
  clear hw2
  go_wp2_with fail
  go_end0
  refine ⟨rfl, ?_⟩
  rw [HW2.out, HW1.out]
  exact putRow_putRow _ _ _ _ _ _ (by unfold icolsA; rw [size_steps])

/-- The same over a block that was laid last. -/
theorem idct_new (d : Array Int) (W : World) (B : Nat) (hB : B = W.heap.size) (c : Array Value) (hc : c = d.map i32v) (hd : d.size = 64) :
    Calls Try.prog 21 #[.pointer (some ⟨B, 0, none⟩)] (W.alloc (.cells c 44)) fun e w' => e = .returned (.tuple #[]) ∧ w' = W.alloc (.cells ((icolsA (irowsA d)).map i32v) 44) := by
  subst hB hc
  refine (idct_any W.heap.size d _ hd (holds_new W d 44)).mono ?_
  rintro e w' ⟨rfl, rfl⟩
  exact ⟨rfl, putRow_new W d _ 44 (by unfold icolsA irowsA; rw [size_steps, size_steps])⟩

set_option maxRecDepth 100000 in
set_option maxHeartbeats 1000000 in
theorem zzinverse_any (d : Array Int) (w : World) (hd : d.size = 64) :
    Calls Try.prog 17 #[.agg (d.map i32v)] w fun e w' => e = .returned (.agg ((icolsA (irowsA d)).map i32v)) ∧ Below w.heap.size w w' := by
  obtain ⟨c, hc⟩ : ∃ c, c = d.map i32v := ⟨_, rfl⟩
  obtain ⟨c', hc'⟩ : ∃ c', c' = (icolsA (irowsA d)).map i32v := ⟨_, rfl⟩
  have hs : c.size = 64 := by rw [hc, Array.size_map, hd]
  have hs' : c'.size = 64 := by rw [hc', Array.size_map]; unfold icolsA irowsA; rw [size_steps, size_steps, hd]
  have hz : (Try.prog.info? 29).map (·.size) = some 64 := by kernel_rfl
  have hz44 : (Try.prog.info? 44).map (·.size) = some 64 := by kernel_rfl
  rw [← hc, ← hc']
  have HC := Lib.hid hc
  have HC' := Lib.hid hc'
  have HD := Lib.hid hd
  have HZ := Lib.hid (hz.trans (congrArg some hs.symm))
  have HZ' := Lib.hid (hz.trans (congrArg some hs'.symm))
  have HZ44 := Lib.hid (hz44.trans (congrArg some hs.symm))
  have HZ44' := Lib.hid (hz44.trans (congrArg some hs'.symm))
  have HS := Lib.hid hs.symm
  have HS' := Lib.hid hs'.symm
  have H1 := Lib.hid (one_map hc)
  have H1' := Lib.hid (one_map hc')
  clear hc hc' hd hz hz44 hs hs'
  go_enter Try.func17, Try.ntmps17
  go_wp2_with (first
    | (refine wpList_load_row rfl 29 (.tmp 1) rfl w.heap.size rfl 29 c (0, 0) _ (heap_alloc2_old _ _ _) Try.underlying29 rfl HZ.out ?_)
    | (refine wpList_store_new rfl 44 (.tmp 3) (.tmp 4) rfl (w.heap.size + 1 + 1) c rfl rfl _ _ 44 (size_alloc2 _ _ _) HZ44.out HS.out H1.out ?_))
  refine (idct_new d _ _ (size_alloc2 _ _ _) c HC.out HD.out).mono ?_
  rw [← HC'.out]
  rintro e w1 ⟨rfl, rfl⟩
  go_wp2_with (first
    | (refine wpList_load_row rfl 44 (.tmp 3) rfl (w.heap.size + 1 + 1) rfl 44 c' (0, 0) _ (heap_alloc3_new _ _ _ _) Try.underlying44 rfl HZ44'.out ?_)
    | (refine wpList_store_row rfl 29 (.tmp 2) (.tmp 6) rfl (w.heap.size + 1) c' rfl rfl 29 _ (heap_alloc3_mid _ _ _ _) HZ'.out HS'.out H1'.out ?_))
  refine bodyPost_ret (v := .agg c') (results_cell_row rfl _ _ (w.heap.size + 1) 29 c' (0, 0) _ rfl (setRow_heap _ _ _ _ _ _ (heap_alloc3_mid _ _ _ _)) Try.underlying29 rfl HZ'.out) rfl ⟨rfl, ?_⟩
  exact Below_setRow ((((Below.refl _ _).alloc (Nat.le_refl _) _).alloc (by simp) _).alloc (by simp; omega) _) (by omega) _

set_option maxRecDepth 100000 in
set_option maxHeartbeats 1000000 in
theorem inverse_any (d : Array Int) (w : World) (hd : d.size = 64) (hf : ∀ j, j < 64 → (-1048576 : Int) ≤ d[j]! ∧ d[j]! ≤ (1048576 : Int)) :
    Calls Try.prog 10 #[.agg (d.map i32v)] w fun e w' => e = .returned (.agg ((icolsA (irowsA d)).map i32v)) ∧ Below w.heap.size w w' := by
  obtain ⟨c, hc⟩ : ∃ c, c = d.map i32v := ⟨_, rfl⟩
  obtain ⟨c', hc'⟩ : ∃ c', c' = (icolsA (irowsA d)).map i32v := ⟨_, rfl⟩
  have hs : c.size = 64 := by rw [hc, Array.size_map, hd]
  have hs' : c'.size = 64 := by rw [hc', Array.size_map]; unfold icolsA irowsA; rw [size_steps, size_steps, hd]
  have hz : (Try.prog.info? 29).map (·.size) = some 64 := by kernel_rfl
  have hzz := zzinverse_any d
  rw [← hc'] at hzz
  rw [← hc] at hzz
  rw [← hc, ← hc']
  have HZZ := Lib.hid (fun w => hzz w hd)
  have HF := Lib.hid (fun w => fits_any d c w hs (fun j hj => by rw [hc]; exact getElem?_map_i32v d j (by omega)) hf)
  have HZ := Lib.hid (hz.trans (congrArg some hs.symm))
  have HZ' := Lib.hid (hz.trans (congrArg some hs'.symm))
  have HS' := Lib.hid hs'.symm
  have H1' := Lib.hid (one_map hc')
  clear hc hc' hd hz hs hs' hf hzz
  go_enter Try.func10, Try.ntmps10
  go_wp2_with (refine wpList_load_row rfl 29 (.tmp 1) rfl w.heap.size rfl 29 c (0, 0) _ (heap_alloc2_old _ _ _) Try.underlying29 rfl HZ.out ?_)
  refine (HF.out _).mono ?_
  rintro e w1 ⟨rfl, rfl⟩
  go_wp2_with (refine wpList_load_row rfl 29 (.tmp 1) rfl w.heap.size rfl 29 c (0, 0) _ (heap_alloc3_old _ _ _ _) Try.underlying29 rfl HZ.out ?_)
  refine (HZZ.out _).mono ?_
  rintro e w2 ⟨rfl, hb⟩
  have HB := Lib.hid hb
  have hm := Lib.hid ((hb.block (w.heap.size + 1) (by simp)).trans (heap_alloc3_mid _ _ _ _))
  clear hb
  go_wp2_with (refine wpList_store_row rfl 29 (.tmp 2) (.tmp 8) rfl (w.heap.size + 1) c' rfl rfl 29 _ hm.out HZ'.out HS'.out H1'.out ?_)
  refine bodyPost_ret (v := .agg c') (results_cell_row rfl _ _ (w.heap.size + 1) 29 c' (0, 0) _ rfl (setRow_heap _ _ _ _ _ _ hm.out) Try.underlying29 rfl HZ'.out) rfl ⟨rfl, ?_⟩
  exact Below_setRow (((((Below.refl _ _).alloc (Nat.le_refl _) _).alloc (by simp) _).alloc (by simp; omega) _).trans (HB.out.mono (by simp; omega))) (by omega) _

end Go.Proofs.Ytlibflbpajeeeaa
