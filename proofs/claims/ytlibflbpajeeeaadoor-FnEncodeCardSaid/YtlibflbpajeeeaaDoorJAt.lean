/- The pixels' closures of the law: a gray picture's, a picture's of luma and chroma, a picture's of red, green and blue. The pixels' closures of the law over colored pictures. (Joined by wip/gen/merge.py.) -/
import Derived.Test.YtlibflbpajeeeaaDoorJImg
import Derived.Test.YtlibflbpajeeeaaDoorJRow
import Derived.StillTailTactics
import Derived.IntWalk
import Derived.Outline
import Derived.Deep.QuietTactic
import Derived.BigQuiet
namespace Go.Proofs.YtlibflbpajeeeaaDoor
open Go.RowKit

/-- The law's picture at block P: its planes at block pl. -/
structure PlaneAt (w : World) (P pl i : Nat) (n : Nat) (L : List Int) : Prop where
  p4 : ∃ c m, w.cell? ⟨P, 4, none⟩ = some (.slice (some ⟨pl, 0, none⟩) m c) ∧ i < m
  pi : ∃ b c, w.cell? ⟨pl, i, none⟩ = some (.slice (some ⟨b, 0, none⟩) n c) ∧ b < w.heap.size ∧ ∀ k, k < n → w.cell? ⟨b, k, none⟩ = some (.int .u8 (L.getD k 0))
theorem PlaneAt.below {w w' : World} {P pl i n : Nat} {L : List Int} (h : PlaneAt w P pl i n L) (hb : Below w.heap.size w w') : PlaneAt w' P pl i n L := by
  obtain ⟨c, m, h1, h2⟩ := h.p4
  obtain ⟨b, c2, h3, h4, h5⟩ := h.pi
  refine ⟨⟨c, m, (hb.cell (World.block_lt_of_cell? w _ h1)).trans h1, h2⟩, ⟨b, c2, (hb.cell (World.block_lt_of_cell? w _ h3)).trans h3, Nat.lt_of_lt_of_le h4 hb.size, fun k hk => (hb.cell (p := ⟨b, k, none⟩) h4).trans (h5 k hk)⟩⟩

theorem three_one (a b c : Int) : (#[Value.int .u8 a, .int .u8 b, .int .u8 c]).all (·.oneCell') = true := by
  rw [Array.all_eq_true_iff_forall_mem]
  intro v hv
  simp at hv
  rcases hv with rfl | rfl | rfl <;> rfl
theorem info31 : (Tryd.prog.info? 31).map (·.size) = some 3 := by kernel_rfl
theorem zero31 : ∀ w, (zeroValue 31).run Tryd.prog w = .ok (.agg #[.int .u8 0, .int .u8 0, .int .u8 0]) w :=
  (zero_of_info (P := Tryd.prog) (t := 31) (v := .agg #[.int .u8 0, .int .u8 0, .int .u8 0]) (n := 3) (by kernel_rfl)).1

set_option maxRecDepth 100000 in
set_option maxHeartbeats 1000000 in
theorem atGray_any (u : World) (P wb pl wd ht : Nat) (L : List Int) (x y : Nat) (hw : u.cell? ⟨wb, 0, none⟩ = some (.int .i64 wd)) (h : PlaneAt u P pl 0 (wd * ht) L) (hd : wd ≤ 100 ∧ ht ≤ 100) (hx : x < wd) (hy : y < ht) :
    Calls Tryd.prog 5 #[.int .i64 x, .int .i64 y, .pointer (some ⟨P, 0, none⟩), .pointer (some ⟨wb, 0, none⟩)] u fun e u' => e = .returned (.agg #[.int .u8 (L.getD (y * wd + x) 0), .int .u8 0, .int .u8 0]) ∧ Below u.heap.size u u' := by
  obtain ⟨c4, m4, h4, hm4⟩ := h.p4
  obtain ⟨b, c, hpi, hb, hpx⟩ := h.pi
  have hk : y * wd + x < wd * ht := by
    have := Nat.mul_le_mul_right wd (show y + 1 ≤ ht by omega)
    rw [Nat.add_mul, Nat.mul_comm ht wd] at this
    omega
  have hp := hpx (y * wd + x) hk
  have hP := World.block_lt_of_cell? u _ h4
  have hpl := World.block_lt_of_cell? u _ hpi
  have hwb := World.block_lt_of_cell? u _ hw
  have hml : y * wd ≤ 10000 := Nat.le_trans (Nat.mul_le_mul (show y ≤ 100 by omega) hd.1) (by omega)
  obtain ⟨n, hn⟩ : ∃ n, n = wd * ht := ⟨_, rfl⟩
  obtain ⟨q, hq⟩ : ∃ q, q = y * wd := ⟨_, rfl⟩
  have hqi : (y : Int) * (wd : Int) = (q : Int) := by rw [hq]; norm_cast
  rw [← hn] at hpi hk
  rw [← hq] at hp hk hml
  obtain ⟨px, hpxx⟩ : ∃ p, p = L.getD (y * wd + x) 0 := ⟨_, rfl⟩
  rw [hq, ← hpxx] at hp
  rw [← hq] at hp
  have hk2 : (q : Int) + (x : Int) < (n : Int) := by omega
  have hk3 : (0 : Int) ≤ (q : Int) + (x : Int) := by omega
  have hk4 : ((q : Int) + (x : Int)).toNat = q + x := by omega
  have hw2 : IntKind.i64.wrap (q : Int) = q := IntWalk.i64_in _ (by omega)
  have hw3 : IntKind.i64.wrap ((q : Int) + (x : Int)) = (q : Int) + (x : Int) := IntWalk.i64_in _ (by omega)
  have hm4' : (0 : Int) < (m4 : Int) := by omega
  have HPX := Lib.hid hpxx
  have hz := zero31
  rw [← hpxx]
  clear hpx hn hq hpxx h
  go_enter Tryd.func5, Tryd.ntmps5
  go_wp2_with fail
  have g4 : (u.alloc (.cells #[.int .u8 0, .int .u8 0, .int .u8 0] 31)).cell? ⟨P, 4, none⟩ = _ := (World.cell?_alloc_past _ _ _ hP).trans h4
  have g5 : (u.alloc (.cells #[.int .u8 0, .int .u8 0, .int .u8 0] 31)).cell? ⟨pl, 0, none⟩ = _ := (World.cell?_alloc_past _ _ _ hpl).trans hpi
  have g6 : (u.alloc (.cells #[.int .u8 0, .int .u8 0, .int .u8 0] 31)).cell? ⟨b, q + x, none⟩ = _ := (World.cell?_alloc_past _ _ _ hb).trans hp
  have g7 : (u.alloc (.cells #[.int .u8 0, .int .u8 0, .int .u8 0] 31)).cell? ⟨wb, 0, none⟩ = _ := (World.cell?_alloc_past _ _ _ hwb).trans hw
  have g8 := heap_alloc_new u (.cells #[.int .u8 0, .int .u8 0, .int .u8 0] 31)
  have g9 : Below u.heap.size u (u.alloc (.cells #[.int .u8 0, .int .u8 0, .int .u8 0] 31)) := (Below.refl _ _).alloc (Nat.le_refl _) _
  generalize u.alloc (.cells #[.int .u8 0, .int .u8 0, .int .u8 0] 31) = W1 at g4 g5 g6 g7 g8 g9 ⊢
  have G8 := Lib.hid g8
  have G9 := Lib.hid g9
  clear g8 g9 h4 hpi hp hw hP hpl hwb hb
  go_still_tail 12, (by kernel_rfl)
  change wpList _ _ _ _ _ W1.drew
  go_wp2_with ((with_reducible show wpList _ _ _ (⟨none, .store 31 (.tmp 6) (.tmp 18), _, _, _, _⟩ :: _) _ _); refine wpList_store_row rfl 31 (.tmp 6) (.tmp 18) rfl u.heap.size #[.int .u8 px, .int .u8 0, .int .u8 0] rfl rfl 31 _ G8.out info31 rfl (three_one _ _ _) ?_)
  refine bodyPost_ret (v := .agg #[.int .u8 px, .int .u8 0, .int .u8 0]) (results_cell_row rfl _ _ u.heap.size 31 _ (0, 0) _ rfl (setRow_heap _ _ _ _ _ _ G8.out) Tryd.underlying31 rfl info31) rfl ⟨by rw [HPX.out], ?_⟩
  exact Below_setRow (w := W1.drew) (G9.out.trans ⟨rfl, rfl, rfl, Nat.le_refl _, fun _ _ => rfl⟩) (Nat.le_refl _) _

end Go.Proofs.YtlibflbpajeeeaaDoor

namespace Go.Proofs.YtlibflbpajeeeaaDoor
open Go.RowKit

theorem ret3 {a b c a' b' c' : Int} (h0 : a = a') (h1 : b = b') (h2 : c = c') : Ending.returned (.agg #[.int .u8 a, .int .u8 b, .int .u8 c]) = .returned (.agg #[.int .u8 a', .int .u8 b', .int .u8 c']) := by rw [h0, h1, h2]

set_option maxRecDepth 100000 in
set_option maxHeartbeats 2000000 in
theorem atYcc_any (u : World) (P wb pl wd ht : Nat) (L0 L1 L2 : List Int) (x y : Nat) (hw : u.cell? ⟨wb, 0, none⟩ = some (.int .i64 wd)) (h0 : PlaneAt u P pl 0 (wd * ht) L0) (h1 : PlaneAt u P pl 1 (wd * ht) L1) (h2 : PlaneAt u P pl 2 (wd * ht) L2)
    (hd : wd ≤ 100 ∧ ht ≤ 100) (hx : x < wd) (hy : y < ht) :
    Calls Tryd.prog 7 #[.int .i64 x, .int .i64 y, .pointer (some ⟨P, 0, none⟩), .pointer (some ⟨wb, 0, none⟩)] u fun e u' => e = .returned (.agg #[.int .u8 (L0.getD (y * wd + x) 0), .int .u8 (L1.getD (y * wd + x) 0), .int .u8 (L2.getD (y * wd + x) 0)]) ∧ Below u.heap.size u u' := by
  obtain ⟨c4, m4, h4, -⟩ := h0.p4
  obtain ⟨c4', m4', h4', hm4⟩ := h2.p4
  rw [h4] at h4'
  simp only [Option.some.injEq, Value.slice.injEq, true_and] at h4'
  obtain ⟨rfl, rfl⟩ := h4'
  obtain ⟨b0, c0, hp0, hb0, hpx0⟩ := h0.pi
  obtain ⟨b1, c1, hp1, hb1, hpx1⟩ := h1.pi
  obtain ⟨b2, c2, hp2, hb2, hpx2⟩ := h2.pi
  have hk : y * wd + x < wd * ht := by
    have := Nat.mul_le_mul_right wd (show y + 1 ≤ ht by omega)
    rw [Nat.add_mul, Nat.mul_comm ht wd] at this
    omega
  have hv0 := hpx0 (y * wd + x) hk
  have hv1 := hpx1 (y * wd + x) hk
  have hv2 := hpx2 (y * wd + x) hk
  have hP := World.block_lt_of_cell? u _ h4
  have hpl := World.block_lt_of_cell? u _ hp0
  have hwb := World.block_lt_of_cell? u _ hw
  have hml : y * wd ≤ 10000 := Nat.le_trans (Nat.mul_le_mul (show y ≤ 100 by omega) hd.1) (by omega)
  obtain ⟨n, hn⟩ : ∃ n, n = wd * ht := ⟨_, rfl⟩
  obtain ⟨q, hq⟩ : ∃ q, q = y * wd := ⟨_, rfl⟩
  have hqi : (y : Int) * (wd : Int) = (q : Int) := by rw [hq]; norm_cast
  rw [← hn] at hp0 hp1 hp2 hk
  rw [← hq] at hv0 hv1 hv2 hk hml
  obtain ⟨p0, hpx0'⟩ : ∃ p, p = L0.getD (q + x) 0 := ⟨_, rfl⟩
  obtain ⟨p1, hpx1'⟩ : ∃ p, p = L1.getD (q + x) 0 := ⟨_, rfl⟩
  obtain ⟨p2, hpx2'⟩ : ∃ p, p = L2.getD (q + x) 0 := ⟨_, rfl⟩
  rw [← hpx0'] at hv0
  rw [← hpx1'] at hv1
  rw [← hpx2'] at hv2
  have hk2 : (q : Int) + (x : Int) < (n : Int) := by omega
  have hk3 : (0 : Int) ≤ (q : Int) + (x : Int) := by omega
  have hk4 : ((q : Int) + (x : Int)).toNat = q + x := by omega
  have hw2 : IntKind.i64.wrap (q : Int) = q := IntWalk.i64_in _ (by omega)
  have hw3 : IntKind.i64.wrap ((q : Int) + (x : Int)) = (q : Int) + (x : Int) := IntWalk.i64_in _ (by omega)
  have hm0 : 0 < m4 := by omega
  have hm1 : 1 < m4 := by omega
  have hm2' : (2 : Int) < (m4 : Int) := by omega
  have hm1' : (1 : Int) < (m4 : Int) := by omega
  rw [← hq, ← hpx0', ← hpx1', ← hpx2']
  have hz := zero31
  have HQ := Lib.hid hq
  clear hpx0 hpx1 hpx2 hn hq hpx0' hpx1' hpx2' h0 h1 h2
  go_enter Tryd.func7, Tryd.ntmps7
  go_wp2_with fail
  have past : ∀ b j v, b < u.heap.size → u.cell? ⟨b, j, none⟩ = some v → (u.alloc (.cells #[.int .u8 0, .int .u8 0, .int .u8 0] 31)).cell? ⟨b, j, none⟩ = some v := fun b j v hb hv => (World.cell?_alloc_past _ _ _ hb).trans hv
  have g4 := past _ _ _ hP h4
  have g50 := past _ _ _ hpl hp0
  have g51 := past _ _ _ hpl hp1
  have g52 := past _ _ _ hpl hp2
  have g60 := past _ _ _ hb0 hv0
  have g61 := past _ _ _ hb1 hv1
  have g62 := past _ _ _ hb2 hv2
  have g7 := past _ _ _ hwb hw
  have g8 := heap_alloc_new u (.cells #[.int .u8 0, .int .u8 0, .int .u8 0] 31)
  have g9 : Below u.heap.size u (u.alloc (.cells #[.int .u8 0, .int .u8 0, .int .u8 0] 31)) := (Below.refl _ _).alloc (Nat.le_refl _) _
  clear past
  generalize u.alloc (.cells #[.int .u8 0, .int .u8 0, .int .u8 0] 31) = W1 at g4 g50 g51 g52 g60 g61 g62 g7 g8 g9 ⊢
  have G8 := Lib.hid g8
  have G9 := Lib.hid g9
  clear g8 g9 h4 hp0 hp1 hp2 hv0 hv1 hv2 hw hP hpl hwb hb0 hb1 hb2
  go_still_tail 34, (by kernel_rfl)
  change wpList _ _ _ _ _ W1.drew
  go_wp2_with ((with_reducible show wpList _ _ _ (⟨none, .store 31 (.tmp 6) (.tmp 40), _, _, _, _⟩ :: _) _ _); refine wpList_store_row rfl 31 (.tmp 6) (.tmp 40) rfl u.heap.size #[.int .u8 p0, .int .u8 p1, .int .u8 p2] rfl rfl 31 _ G8.out info31 rfl (three_one _ _ _) ?_)
  refine bodyPost_ret (v := .agg #[.int .u8 p0, .int .u8 p1, .int .u8 p2]) (results_cell_row rfl _ _ u.heap.size 31 _ (0, 0) _ rfl (setRow_heap _ _ _ _ _ _ G8.out) Tryd.underlying31 rfl info31) rfl ⟨rfl, ?_⟩
  exact Below_setRow (w := W1.drew) (G9.out.trans ⟨rfl, rfl, rfl, Nat.le_refl _, fun _ _ => rfl⟩) (Nat.le_refl _) _

set_option maxRecDepth 100000 in
set_option maxHeartbeats 2000000 in
theorem atRgb_any (u : World) (P wb pl wd ht : Nat) (L : List Int) (x y : Nat) (hw : u.cell? ⟨wb, 0, none⟩ = some (.int .i64 wd)) (h0 : PlaneAt u P pl 0 (4 * (wd * ht)) L) (hb8 : ∀ k, 0 ≤ L.getD k 0 ∧ L.getD k 0 ≤ 255)
    (hd : wd ≤ 100 ∧ ht ≤ 100) (hx : x < wd) (hy : y < ht) :
    Calls Tryd.prog 8 #[.int .i64 x, .int .i64 y, .pointer (some ⟨wb, 0, none⟩), .pointer (some ⟨P, 0, none⟩)] u fun e u' => e = .returned (.agg #[.int .u8 (rgbY L wd x y), .int .u8 (rgbCb L wd x y), .int .u8 (rgbCr L wd x y)]) ∧ Below u.heap.size u u' := by
  obtain ⟨c4, m4, h4, hm4⟩ := h0.p4
  obtain ⟨b, c, hpi, hb, hpx⟩ := h0.pi
  have hk0 : y * wd + x < wd * ht := by
    have := Nat.mul_le_mul_right wd (show y + 1 ≤ ht by omega)
    rw [Nat.add_mul, Nat.mul_comm ht wd] at this
    omega
  have hml : y * wd ≤ 10000 := Nat.le_trans (Nat.mul_le_mul (show y ≤ 100 by omega) hd.1) (by omega)
  obtain ⟨k, hkd⟩ : ∃ k, k = pxAt wd x y := ⟨_, rfl⟩
  have hkq : k = 4 * (y * wd + x) := hkd
  have hv0 := hpx k (by omega)
  have hv1 := hpx (k + 1) (by omega)
  have hv2 := hpx (k + 2) (by omega)
  have hP := World.block_lt_of_cell? u _ h4
  have hpl := World.block_lt_of_cell? u _ hpi
  have hwb := World.block_lt_of_cell? u _ hw
  obtain ⟨n, hn⟩ : ∃ n, n = 4 * (wd * ht) := ⟨_, rfl⟩
  obtain ⟨q, hq⟩ : ∃ q, q = y * wd := ⟨_, rfl⟩
  have hqi : (y : Int) * (wd : Int) = (q : Int) := by rw [hq]; norm_cast
  rw [← hn] at hpi
  rw [← hq] at hml hkq hk0
  have hkn : k + 2 < n := by omega
  obtain ⟨hr0, hr1⟩ := hb8 k
  obtain ⟨hg0, hg1⟩ := hb8 (k + 1)
  obtain ⟨hc0, hc1⟩ := hb8 (k + 2)
  have hres : rgbY L wd x y = lumaOf (L.getD k 0) (L.getD (k + 1) 0) (L.getD (k + 2) 0) ∧ rgbCb L wd x y = cbOf (L.getD k 0) (L.getD (k + 1) 0) (L.getD (k + 2) 0) ∧ rgbCr L wd x y = crOf (L.getD k 0) (L.getD (k + 1) 0) (L.getD (k + 2) 0) := by
    unfold rgbY rgbCb rgbCr
    rw [← hkd]
    exact ⟨rfl, rfl, rfl⟩
  obtain ⟨pr, hpr⟩ : ∃ p, p = L.getD k 0 := ⟨_, rfl⟩
  obtain ⟨pg, hpg⟩ : ∃ p, p = L.getD (k + 1) 0 := ⟨_, rfl⟩
  obtain ⟨pc, hpc⟩ : ∃ p, p = L.getD (k + 2) 0 := ⟨_, rfl⟩
  rw [← hpr, ← hpg, ← hpc] at hres
  rw [← hpr] at hv0 hr0 hr1
  rw [← hpg] at hv1 hg0 hg1
  rw [← hpc] at hv2 hc0 hc1
  obtain ⟨vy, hvy⟩ : ∃ p, p = lumaOf pr pg pc := ⟨_, rfl⟩
  obtain ⟨vb, hvb⟩ : ∃ p, p = cbOf pr pg pc := ⟨_, rfl⟩
  obtain ⟨vr, hvr⟩ : ∃ p, p = crOf pr pg pc := ⟨_, rfl⟩
  have hycc : ∀ w, Calls Tryd.prog 9 #[.int .u8 pr, .int .u8 pg, .int .u8 pc] w fun e w' => e = .returned (.tuple #[.int .u8 vy, .int .u8 vb, .int .u8 vr]) ∧ w' = w := fun w => by
    rw [hvy, hvb, hvr]
    exact ycc_any pr pg pc w ⟨hr0, hr1⟩ ⟨hg0, hg1⟩ ⟨hc0, hc1⟩
  rw [← hvy, ← hvb, ← hvr] at hres
  have HRES := Lib.hid hres
  have HYCC := Lib.hid hycc
  have hkz : (4 : Int) * ((q : Int) + (x : Int)) = (k : Int) := by omega
  have hw1 : IntKind.i64.wrap ((k : Int) + 1) = (k : Int) + 1 := IntWalk.i64_in _ (by omega)
  have hw2 : IntKind.i64.wrap ((k : Int) + 2) = (k : Int) + 2 := IntWalk.i64_in _ (by omega)
  have i0 : (k : Int) < (n : Int) := by omega
  have i1 : (k : Int) + 1 < (n : Int) := by omega
  have i2 : (k : Int) + 2 < (n : Int) := by omega
  have j1 : (0 : Int) ≤ (k : Int) + 1 := by omega
  have j2 : (0 : Int) ≤ (k : Int) + 2 := by omega
  have t1 : ((k : Int) + 1).toNat = k + 1 := by omega
  have t2 : ((k : Int) + 2).toNat = k + 2 := by omega
  have hm1 : (0 : Int) < (m4 : Int) := by omega
  have hz := zero31
  clear hpx hn hq hpr hpg hpc hvy hvb hvr hres hycc h0 hb8 hkd hkq hk0
  go_enter Tryd.func8, Tryd.ntmps8
  have past : ∀ b j v, b < u.heap.size → u.cell? ⟨b, j, none⟩ = some v → (u.alloc (.cells #[.int .u8 0, .int .u8 0, .int .u8 0] 31)).cell? ⟨b, j, none⟩ = some v := fun b j v hb hv => (World.cell?_alloc_past _ _ _ hb).trans hv
  have g4 := past _ _ _ hP h4
  have g5 := past _ _ _ hpl hpi
  have g60 := past _ _ _ hb hv0
  have g61 := past _ _ _ hb hv1
  have g62 := past _ _ _ hb hv2
  have g8 := heap_alloc_new u (.cells #[.int .u8 0, .int .u8 0, .int .u8 0] 31)
  have g9 : Below u.heap.size u (u.alloc (.cells #[.int .u8 0, .int .u8 0, .int .u8 0] 31)) := (Below.refl _ _).alloc (Nat.le_refl _) _
  have g7 := past _ _ _ hwb hw
  clear past
  go_wp2_with fail
  generalize u.alloc (.cells #[.int .u8 0, .int .u8 0, .int .u8 0] 31) = W1 at g4 g5 g60 g61 g62 g7 g8 g9 ⊢
  have G8 := Lib.hid g8
  have G9 := Lib.hid g9
  clear g8 g9 h4 hpi hv0 hv1 hv2 hw hP hpl hb hwb
  go_quiet ((go_at_call 9; refine Calls.quiet_of_same (HYCC.out _)))
  go_wp2_with ((with_reducible show wpList _ _ _ (⟨none, .store 31 (.tmp 6) (.tmp 48), _, _, _, _⟩ :: _) _ _); refine wpList_store_row rfl 31 (.tmp 6) (.tmp 48) rfl u.heap.size #[.int .u8 vy, .int .u8 vb, .int .u8 vr] rfl rfl 31 _ G8.out info31 rfl (three_one _ _ _) ?_)
  obtain ⟨r1, r2, r3⟩ := HRES.out
  refine bodyPost_ret (v := .agg #[.int .u8 vy, .int .u8 vb, .int .u8 vr]) (results_cell_row rfl _ _ u.heap.size 31 _ (0, 0) _ rfl (setRow_heap _ _ _ _ _ _ G8.out) Tryd.underlying31 rfl info31) rfl ⟨ret3 r1.symm r2.symm r3.symm, ?_⟩
  exact Below_setRow (w := W1.drewN nq) (G9.out.trans ⟨rfl, rfl, rfl, Nat.le_refl _, fun _ _ => rfl⟩) (Nat.le_refl _) _

end Go.Proofs.YtlibflbpajeeeaaDoor
