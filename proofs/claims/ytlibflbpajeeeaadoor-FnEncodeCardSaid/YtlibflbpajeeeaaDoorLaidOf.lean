/- What the row's condition on the three tables gives the walks. -/
import Derived.Test.YtlibflbpajeeeaaDoorJInit
import Derived.Lib.LaidTab
import Derived.LaidMore
import Derived.MakeChecks
import Derived.OpenShut
namespace Go.Proofs.YtlibflbpajeeeaaDoor
open Go.RowKit

theorem gQuant : Tryd.prog.globalNamed "loop.example/pub-g03464/pub/jpeg.unscaledQuant" = some 0 := by kernel_rfl
theorem gZig : Tryd.prog.globalNamed "loop.example/pub-g03464/pub/jpeg.unzig" = some 1 := by kernel_rfl
theorem gCount : Tryd.prog.globalNamed "loop.example/pub-g03464/pub/jpeg.bitCount" = some 2 := by kernel_rfl
theorem tQuant : (Tryd.prog.globals[0]?).map (·.type) = some 111 := by kernel_rfl
theorem tZig : (Tryd.prog.globals[1]?).map (·.type) = some 60 := by kernel_rfl
theorem tCount : (Tryd.prog.globals[2]?).map (·.type) = some 168 := by kernel_rfl
theorem c3 : Tryd.prog.cellsOf 3 = 1 := by kernel_rfl
theorem c5 : Tryd.prog.cellsOf 5 = 1 := by kernel_rfl
theorem c60 : Tryd.prog.cellsOf 60 = 64 := by kernel_rfl
theorem c168 : Tryd.prog.cellsOf 168 = 256 := by kernel_rfl
theorem c110 : Tryd.prog.cellsOf 110 = 64 := by kernel_rfl
theorem c111 : Tryd.prog.cellsOf 111 = 128 := by kernel_rfl

/-- A table's numbers, written by a function. -/
def fnL (n : Nat) (f : Nat → Int) : List Int := (List.range n).map f
theorem fnL_at (n : Nat) (f : Nat → Int) (k : IntKind) (j : Nat) (hj : j < n) : ((fnL n f).map fun z => Value.int k z)[j]? = some (.int k (f j)) := by
  simp [fnL, hj]
theorem dZig : (Rows.laid_loop_example_pub_g03464_pub_jpeg_unzig : DataW Unit) = Lib.tabData .i64 (fnL 64 fun j => (zzAt j : Int)) := by kernel_rfl
theorem dCount : (Rows.laid_loop_example_pub_g03464_pub_jpeg_bitCount : DataW Unit) = Lib.tabData .u8 (fnL 256 fun j => (szN 8 j : Int)) := by kernel_rfl
theorem dQuant : (Rows.laid_loop_example_pub_g03464_pub_jpeg_unscaledQuant : DataW Unit) = .agg [Lib.tabData .u8 (fnL 64 fun j => baseF 0 (zzAt j)), Lib.tabData .u8 (fnL 64 fun j => baseF 1 (zzAt j))] := by kernel_rfl

set_option maxRecDepth 100000 in
theorem laid_of {W : World} (h : laidMetH Tryd.prog Rows.fnEncodeRow.laid W) : Laid W := by
  rw [MakeChecks.laidMetH_plain _ _ _ (by kernel_rfl)] at h
  obtain ⟨ps, ⟨g0, t0, cs0, f0, p0, q0, hg0, ht0, hv0, hd0, ⟨g1, t1, cs1, f1, p1, q1, hg1, ht1, hv1, hd1, ⟨g2, t2, cs2, f2, p2, q2, hg2, ht2, hv2, hd2, _, _⟩, _⟩, _⟩, _, _⟩ := h
  obtain rfl := Option.some.inj (gZig.symm.trans hg0)
  obtain rfl := Option.some.inj (gCount.symm.trans hg1)
  obtain rfl := Option.some.inj (gQuant.symm.trans hg2)
  obtain rfl := Option.some.inj (tZig.symm.trans ht0)
  obtain rfl := Option.some.inj (tCount.symm.trans ht1)
  obtain rfl := Option.some.inj (tQuant.symm.trans ht2)
  rw [dZig] at hd0
  rw [dCount] at hd1
  rw [dQuant] at hd2
  have e0 := Lib.cells_of_tab Tryd.underlying60 Tryd.underlying3 c3 c60 hd0
  have e1 := Lib.cells_of_tab Tryd.underlying168 Tryd.underlying5 c5 c168 hd1
  have z : ∀ j, j < 64 → W.cell? ⟨1, j, none⟩ = some (.int .i64 (zzAt j)) := fun j hj => by
    rw [World.var?_cell hg0 hv0 j, ← Array.getElem?_toList, e0]
    exact fnL_at 64 _ _ j hj
  have b : ∀ j, j < 256 → W.cell? ⟨2, j, none⟩ = some (.int .u8 (szN 8 j)) := fun j hj => by
    rw [World.var?_cell hg1 hv1 j, ← Array.getElem?_toList, e1]
    exact fnL_at 256 _ _ j hj
  refine ⟨fun n hn => ?_, z, b, World.block_lt_of_cell? W _ (b 0 (by omega))⟩
  obtain ⟨xs, m, -, ex, hlen, hl, hel⟩ := DataW.trod_array Tryd.underlying111 hd2
  have k0 := hel 0 (by omega)
  have k1 := hel 1 (by omega)
  rw [c110] at k0 k1
  have e3 := DataW.agg.inj (Prod.mk.inj ex).1
  match xs, hl, e3, k0, k1 with
  | [x0, x1], _, e3, k0, k1 =>
    obtain ⟨d0, r0⟩ := x0
    obtain ⟨d1, r1⟩ := x1
    simp only [List.map_cons, List.map_nil, List.cons.injEq, and_true] at e3
    obtain ⟨rfl, rfl⟩ := e3
    have a0 := Lib.cells_of_tab Tryd.underlying110 Tryd.underlying5 c5 c110 k0
    have a1 := Lib.cells_of_tab Tryd.underlying110 Tryd.underlying5 c5 c110 k1
    rw [World.var?_cell hg2 hv2 n, ← Array.getElem?_toList]
    by_cases h64 : n < 64
    · have := fnL_at 64 (fun j => baseF 0 (zzAt j)) .u8 n h64
      rw [← a0, Nat.zero_mul, List.drop_zero, List.getElem?_take, if_pos h64] at this
      rw [this, Nat.div_eq_of_lt h64, Nat.mod_eq_of_lt h64]
    · have := fnL_at 64 (fun j => baseF 1 (zzAt j)) .u8 (n - 64) (by omega)
      rw [← a1, List.getElem?_take, if_pos (by omega), List.getElem?_drop] at this
      rw [show 1 * 64 + (n - 64) = n by omega] at this
      rw [this, show n / 64 = 1 by omega, show n % 64 = n - 64 by omega]
end Go.Proofs.YtlibflbpajeeeaaDoor
