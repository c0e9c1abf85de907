/- Pictures in memory, and the blocks of 64 numbers that the encoder takes off them. The three blocks of numbers off a picture of luma and chroma (of one share). The three blocks of numbers off a picture of red, green and blue. Plain: the bits of a whole picture: block behind block. The contract of writeSOS over a gray picture. Blocks of one-cell values by a function. What the loops of writeSOS over a colored picture hold. (Joined by wip/gen/merge.py.) -/
import Derived.Test.YtlibflbpajeeeaaDoorJWb
import Derived.RegionTactic
import Derived.ChangeAlike
import Derived.Test.YtlibflbpajeeeaaDoorYcc
import Derived.Test.YtlibflbpajeeeaaDoorJScale
import Derived.Test.YtlibflbpajeeeaaDoorJArr
namespace Go.Proofs.YtlibflbpajeeeaaDoor
open Go.RowKit Go.Sort

/-- Blocks that stood there are as they were, but for some. -/
abbrev Fills (Ts : List Nat) (w w' : World) : Prop := Keeps Ts undef undef w w'
theorem Fills.to {Ts : List Nat} {w w' : World} (h : Fills Ts w w') (v : Value) : Keeps Ts v v w w' := ⟨h.os, h.tape, h.output, h.size, fun k hk hb _ => h.block k hk hb (by intro e; cases e), fun _ h => .inl h⟩
theorem Fills.at {Ts : List Nat} {w w' : World} (h : Fills Ts w w') {x : Addr} (hx : x.block < w.heap.size) (hb : x.block ∉ Ts) : w'.cell? x = w.cell? x := h.cell hx hb (by intro e; cases e)

/-- The numbers g 0, g 1, .. behind a place, t of them. -/
def fillAt (off : Nat) (g : Nat → Int) (D : Array Int) : Nat → Array Int
  | 0 => D
  | t + 1 => (fillAt off g D t).set! (off + t) (g t)
theorem fillAt_size (off : Nat) (g : Nat → Int) (D : Array Int) : ∀ t, (fillAt off g D t).size = D.size := by
  intro t
  induction t with
  | zero => rfl
  | succ t ih => simp only [fillAt, Array.set!_eq_setIfInBounds, Array.size_setIfInBounds, ih]
theorem fillAt_get (off : Nat) (g : Nat → Int) (D : Array Int) : ∀ t j, off + t ≤ D.size → j < D.size → (fillAt off g D t)[j]! = if off ≤ j ∧ j < off + t then g (j - off) else D[j]! := by
  intro t
  induction t with
  | zero => intro j _ _; rw [if_neg (by omega)]; rfl
  | succ t ih =>
    intro j h1 h2
    simp only [fillAt, Array.set!_eq_setIfInBounds]
    have hsz : j < (fillAt off g D t).size := by rw [fillAt_size]; exact h2
    rw [getElem!_pos ((fillAt off g D t).setIfInBounds (off + t) (g t)) j (by rw [Array.size_setIfInBounds]; exact hsz), Array.getElem_setIfInBounds hsz]
    by_cases e : off + t = j
    · subst e
      rw [if_pos rfl, if_pos (by omega)]
      congr 1
      omega
    · rw [if_neg e, ← getElem!_pos (fillAt off g D t) j (by rw [fillAt_size]; exact h2), ih j (by omega) h2]
      by_cases e2 : off ≤ j ∧ j < off + t
      · rw [if_pos e2, if_pos (by omega)]
      · rw [if_neg e2, if_neg (by omega)]

/-- A block off a picture: what lies beyond it is as its last column and row. -/
def blkG (f : Nat → Nat → Int) (wd ht x y : Nat) (j : Nat) : Int := f (min (x + j % 8) (wd - 1)) (min (y + j / 8) (ht - 1))

theorem holds_store {w : World} {B : Nat} {D : Array Int} (h : Holds i32v w B 0 D) (j : Nat) (x : Int) : Holds i32v (w.setCell ⟨B, j, none⟩ (.int .i32 x)) B 0 (D.set! j x) := by
  intro i hi
  simp only [Array.set!_eq_setIfInBounds, Array.size_setIfInBounds] at hi
  obtain ⟨h1, h2⟩ := h i hi
  rw [Nat.zero_add] at h1 h2 ⊢
  refine ⟨?_, by rw [World.frozen?_setCell]; exact h2⟩
  simp only [Array.set!_eq_setIfInBounds]
  rw [getElem!_pos (D.setIfInBounds j x) i (by rw [Array.size_setIfInBounds]; exact hi), Array.getElem_setIfInBounds hi]
  by_cases e : j = i
  · subst e
    rw [if_pos rfl, World.cell?_setCell_same _ _ _ h1]
    rfl
  · rw [if_neg e, World.cell?_setCell_other _ _ _ _ (by intro e'; injection e'; omega), ← getElem!_pos D i hi]
    exact h1
theorem holds_beside {w : World} {B : Nat} {D : Array Int} (h : Holds i32v w B 0 D) (a : Addr) (x : Value) (ha : a.block ≠ B) : Holds i32v (w.setCell a x) B 0 D :=
  holds_same h (Below.heap_setCell w a x B (fun e => ha e.symm))

/-- A gray picture at block M, its numbers at block pb. -/
structure GrayAt (w : World) (M pb : Nat) (wd ht : Nat) (L : List Int) : Prop where
  pix : ∃ cap, w.cell? ⟨M, 0, none⟩ = some (.slice (some ⟨pb, 0, none⟩) (wd * ht) cap)
  st : w.cell? ⟨M, 1, none⟩ = some (.int .i64 wd)
  r0 : w.cell? ⟨M, 2, none⟩ = some (.int .i64 0)
  r1 : w.cell? ⟨M, 3, none⟩ = some (.int .i64 0)
  r2 : w.cell? ⟨M, 4, none⟩ = some (.int .i64 wd)
  r3 : w.cell? ⟨M, 5, none⟩ = some (.int .i64 ht)
  px : ∀ k, k < wd * ht → w.cell? ⟨pb, k, none⟩ = some (.int .u8 (L.getD k 0))
  by8 : ∀ k, 0 ≤ L.getD k 0 ∧ L.getD k 0 ≤ 255
  dim : 1 ≤ wd ∧ wd ≤ 100 ∧ 1 ≤ ht ∧ ht ≤ 100
  lt : pb < w.heap.size

theorem GrayAt.keeps {w w' : World} {M pb wd ht : Nat} {L : List Int} {Ts : List Nat} (h : GrayAt w M pb wd ht L) (k : Fills Ts w w') (h1 : M ∉ Ts) (h2 : pb ∉ Ts) : GrayAt w' M pb wd ht L := by
  have hM : M < w.heap.size := World.block_lt_of_cell? w _ h.st
  have hc : ∀ j, w'.cell? ⟨M, j, none⟩ = w.cell? ⟨M, j, none⟩ := fun j => k.at (x := ⟨M, j, none⟩) hM h1
  obtain ⟨cap, hp⟩ := h.pix
  exact ⟨⟨cap, (hc 0).trans hp⟩, (hc 1).trans h.st, (hc 2).trans h.r0, (hc 3).trans h.r1, (hc 4).trans h.r2, (hc 5).trans h.r3, fun j hj => (k.at (x := ⟨pb, j, none⟩) h.lt h2).trans (h.px j hj), h.by8, h.dim, Nat.lt_of_lt_of_le h.lt k.size⟩

set_option maxRecDepth 100000 in
set_option maxHeartbeats 1000000 in
theorem pixOffset_any (w : World) (M pb wd ht : Nat) (L : List Int) (a b : Int) (h : GrayAt w M pb wd ht L) (hx : (0 ≤ a ∧ a ≤ 1000) ∧ (0 ≤ b ∧ b ≤ 1000)) :
    Calls Tryd.prog 67 #[.pointer (some ⟨M, 0, none⟩), .int .i64 a, .int .i64 b] w fun e w' => e = .returned (.int .i64 (b * wd + a)) ∧ ∃ q, w' = w.drewN q := by
  have hr0 := h.r0
  have hr1 := h.r1
  have hst := h.st
  obtain ⟨hd1, hd2, hd3, hd4⟩ := h.dim
  obtain ⟨⟨hx1, hx2⟩, hx3, hx4⟩ := hx
  have hm : b * (wd : Int) ≤ 1000 * 100 := Int.mul_le_mul (by omega) (by omega) (by omega) (by omega)
  have hm0 : (0 : Int) ≤ b * (wd : Int) := Int.mul_nonneg (by omega) (by omega)
  have H := Lib.hid h
  clear h
  go_enter Tryd.func67, Tryd.ntmps67
  go_wp2_with fail
  go_quiet (fail)
  go_wp2_with fail
  go_ret
  exact ⟨rfl, nq, rfl⟩

/-- The world at the head of grayToY's loop. -/
def grayW (w : World) (x y wd ht : Nat) : World :=
  (((w.alloc (.cells #[.int .i64 x, .int .i64 y] 86)).alloc (.cells #[.int .i64 0, .int .i64 0, .int .i64 wd, .int .i64 ht] 88)).alloc (.cells #[.int .i64 0, .int .i64 0, .int .i64 wd, .int .i64 ht] 88))
theorem grayW_fills (w : World) (x y wd ht : Nat) : Fills [] w (grayW w x y wd ht) := ((Keeps.alloc _ _ _ _).trans (Keeps.alloc _ _ _ _)).trans (Keeps.alloc _ _ _ _)
theorem grayW_cell (w : World) (x y wd ht : Nat) : (grayW w x y wd ht).cell? ⟨w.heap.size, 0, none⟩ = some (.int .i64 x) ∧ (grayW w x y wd ht).cell? ⟨w.heap.size, 1, none⟩ = some (.int .i64 y) ∧ w.heap.size < (grayW w x y wd ht).heap.size := by
  have h : ∀ j, (grayW w x y wd ht).cell? ⟨w.heap.size, j, none⟩ = (w.alloc (.cells #[.int .i64 x, .int .i64 y] 86)).cell? ⟨w.heap.size, j, none⟩ := fun j => by
    unfold grayW
    rw [World.cell?_alloc_past _ _ _ (by simp; omega), World.cell?_alloc_past _ _ _ (by simp)]
  refine ⟨?_, ?_, by unfold grayW; simp; omega⟩
  · rw [h, cell_of_row _ _ _ _ 86 (0, 0) (heap_alloc_new _ _)]; rfl
  · rw [h, cell_of_row _ _ _ _ 86 (0, 0) (heap_alloc_new _ _)]; rfl

/-- What the loops of grayToY hold behind t steps. -/
def GrayRel (w : World) (x y wd ht B : Nat) (L : List Int) (d : Array Int) (t : Nat) (wr : World) : Prop :=
  Fills [B] (grayW w x y wd ht) wr ∧ Holds i32v wr B 0 (fillAt 0 (blkG (fun x y => L.getD (y * wd + x) 0) wd ht x y) d t)

theorem gray_step {w : World} {x y wd ht B : Nat} {L : List Int} {d : Array Int} {t : Nat} {wr : World} (hf : Fills [B] (grayW w x y wd ht) wr) (hh : Holds i32v wr B 0 (fillAt 0 (blkG (fun x y => L.getD (y * wd + x) 0) wd ht x y) d t)) (m : Nat) (v : Int)
    (hv : blkG (fun x y => L.getD (y * wd + x) 0) wd ht x y t = v) : GrayRel w x y wd ht B L d (t + 1) ((wr.drewN m).setCell ⟨B, t, none⟩ (.int .i32 v)) := by
  refine ⟨(hf.trans (Keeps.drew _ _ _ m)).trans (Keeps.setCell _ _ _ _ (by simp)), ?_⟩
  simp only [fillAt]
  rw [hv, Nat.zero_add]
  exact holds_store (holds_same hh rfl) t v

set_option maxRecDepth 100000 in
set_option maxHeartbeats 1000000 in
theorem grayToY_any (w : World) (M pb wd ht : Nat) (L : List Int) (x y B : Nat) (d : Array Int) (h : GrayAt w M pb wd ht L) (hx : x ≤ 200 ∧ y ≤ 200) (hd : d.size = 64) (hh : Holds i32v w B 0 d) (h1 : B ≠ M) (h2 : B ≠ pb) :
    Calls Tryd.prog 58 #[.pointer (some ⟨M, 0, none⟩), .agg #[.int .i64 x, .int .i64 y], .pointer (some ⟨B, 0, none⟩)] w fun e w' => e = .returned (.tuple #[]) ∧ Fills [B] w w' ∧ Holds i32v w' B 0 (fillAt 0 (blkG (fun x y => L.getD (y * wd + x) 0) wd ht x y) d 64) := by
  obtain ⟨cap, hp⟩ := h.pix
  obtain ⟨len, hlen⟩ : ∃ len, len = wd * ht := ⟨_, rfl⟩
  rw [← hlen] at hp
  have hr0 := h.r0
  have hr1 := h.r1
  have hr2 := h.r2
  have hr3 := h.r3
  have hM : M < w.heap.size := World.block_lt_of_cell? w _ h.st
  have hBl : B < w.heap.size := World.block_lt_of_cell? w _ (holds_cell hh 0 (by omega))
  have hp3 : ∀ A B C, (((w.alloc A).alloc B).alloc C).cell? ⟨M, 0, none⟩ = some (.slice (some ⟨pb, 0, none⟩) len cap) := fun A B C => by
    rw [World.cell?_alloc_past _ _ _ (by show M < _; simp; omega), World.cell?_alloc_past _ _ _ (by show M < _; simp; omega), World.cell?_alloc_past _ _ _ hM]; exact hp
  obtain ⟨hd1, hd2, hd3, hd4⟩ := h.dim
  have hgw := grayW_fills w x y wd ht
  obtain ⟨hgc0, hgc1, hgs⟩ := grayW_cell w x y wd ht
  have hst : GrayRel w x y wd ht B L d 0 (grayW w x y wd ht) := ⟨Keeps.refl _ _ _, holds_same hh (hgw.block B hBl (by simp) (by intro e; cases e))⟩
  have hg0 := h.keeps hgw (by simp) (by simp)
  have HLEN := Lib.hid hlen
  clear hlen
  have HST := Lib.hid hst
  have HG := Lib.hid hg0
  have HGW := Lib.hid hgw
  have HGC := Lib.hid (And.intro hgc0 (And.intro hgc1 hgs))
  have HD := Lib.hid hd
  have HBP := Lib.hid (And.intro h1 (And.intro h2 hBl))
  clear h hh hd hst hg0 hgw hgc0 hgc1 hgs h1 h2 hBl
  go_enter Tryd.func58, Tryd.ntmps58
  go_wp2_with (go_in)
  go_loopw [10, 11, 12] (fun jv _ _ wr => ∃ j : Nat, j ≤ 8 ∧ jv = .int .i64 j ∧ GrayRel w x y wd ht B L d (8 * j) wr) (fun jv _ _ _ => 8 - (intOf jv).toNat)
  case atStart => exact ⟨0, by omega, rfl, HST.out⟩
  case round =>
    obtain ⟨j, hj, rfl, hrj⟩ := hrel
    have HRJ := Lib.hid hrj
    clear hrj hp hp3 hr0 hr1 hr2 hr3
    by_cases hj8 : j < 8
    · have hjb : decide ((j : Int) < 8) = true := by simp; omega
      obtain ⟨wo, rfl⟩ : ∃ wo : World, wo = wr := ⟨_, rfl⟩
      go_wp2_with fail
      go_loopw [11, 12] (fun iv _ wr => ∃ i : Nat, i ≤ 8 ∧ iv = .int .i64 i ∧ GrayRel w x y wd ht B L d (8 * j + i) wr) (fun iv _ _ => 8 - (intOf iv).toNat)
      case atStart => exact ⟨0, by omega, rfl, HRJ.out⟩
      case round =>
        obtain ⟨i, hi, rfl, hri⟩ := hrel
        have ⟨hfl, hhd⟩ := hri
        have HFL := Lib.hid hfl
        have HHD := Lib.hid hhd
        by_cases hi8 : i < 8
        · have hib : decide ((i : Int) < 8) = true := by simp; omega
          have hG := HG.out.keeps hfl (by simp; exact fun e => HBP.out.1 e.symm) (by simp; exact fun e => HBP.out.2.1 e.symm)
          have hPx : wr.cell? ⟨w.heap.size, 0, none⟩ = some (.int .i64 x) := (hfl.at (x := ⟨w.heap.size, 0, none⟩) HGC.out.2.2 (by simp; have := HBP.out.2.2; omega)).trans HGC.out.1
          have hPy : wr.cell? ⟨w.heap.size, 1, none⟩ = some (.int .i64 y) := (hfl.at (x := ⟨w.heap.size, 1, none⟩) HGC.out.2.2 (by simp; have := HBP.out.2.2; omega)).trans HGC.out.2.1
          obtain ⟨n, hn⟩ : ∃ n, n = min (y + j) (ht - 1) * wd + min (x + i) (wd - 1) := ⟨_, rfl⟩
          have hnl : n < len := by
            rw [hn, HLEN.out]
            have h1 : min (y + j) (ht - 1) + 1 ≤ ht := by omega
            have h2 := Nat.mul_le_mul_right wd h1
            rw [Nat.add_mul, Nat.mul_comm ht wd] at h2
            omega
          have hpx := hG.px n (by rw [← HLEN.out]; exact hnl)
          have hb8 := hG.by8 n
          have hval : blkG (fun x y => L.getD (y * wd + x) 0) wd ht x y (8 * j + i) = L.getD n 0 := by
            unfold blkG
            rw [show (8 * j + i) % 8 = i by omega, show (8 * j + i) / 8 = j by omega, hn]
          have hpo : ∀ a b : Int, a = ((min (x + i) (wd - 1) : Nat) : Int) → b = ((min (y + j) (ht - 1) : Nat) : Int) → Calls Tryd.prog 67 #[.pointer (some ⟨M, 0, none⟩), .int .i64 a, .int .i64 b] wr fun e w' => e = .returned (.int .i64 n) ∧ ∃ q, w' = wr.drewN q := by
            intro a b ha hb
            have := pixOffset_any wr M pb wd ht L a b hG (by omega)
            have e : b * (wd : Int) + a = (n : Int) := by rw [ha, hb, hn]; norm_cast
            rw [e] at this
            exact this
          have hcb := holds_cell hhd (8 * j + i) (by rw [fillAt_size, HD.out]; omega)
          have hfb := (hhd (8 * j + i) (by rw [fillAt_size, HD.out]; omega)).2
          rw [Nat.zero_add] at hfb
          obtain ⟨z, hz⟩ : ∃ z, z = (fillAt 0 (blkG (fun x y => L.getD (y * wd + x) 0) wd ht x y) d (8 * j + i))[8 * j + i]! := ⟨_, rfl⟩
          rw [← hz] at hcb
          obtain ⟨vx, hvx⟩ : ∃ vx, vx = L.getD n 0 := ⟨_, rfl⟩
          rw [← hvx] at hpx hb8 hval
          have HPO := Lib.hid hpo
          have HV := Lib.hid hval
          have HN := Lib.hid hn
          have hi1 : (0 : Int) ≤ 8 * (j : Int) + (i : Int) := by omega
          have hi2 : 8 * (j : Int) + (i : Int) < 64 := by omega
          have hi3 : (8 * (j : Int) + (i : Int)).toNat = 8 * j + i := by omega
          have hnl2 : (n : Int) < (len : Int) := by omega
          clear hG hfl hhd hri hpo hval hn hz hvx
          go_wp2_with fail
          all_goals
            refine (HPO.out _ _ (by omega) (by omega)).mono ?_
            rintro e w2 ⟨rfl, q, rfl⟩
            go_wp2_with fail
          all_goals
            go_region
          all_goals
            go_wp2_with fail
            go_roundw
          all_goals first
            | exact ⟨i + 1, by omega, by go_num, gray_step HFL.out HHD.out _ vx HV.out⟩
            | (simp [intOf]; omega)
        · obtain rfl : i = 8 := by omega
          go_wp2_with fail
          go_roundw
          case rel => exact ⟨j + 1, by omega, by go_num, hri⟩
          case measure => simp [intOf]; omega
    · obtain rfl : j = 8 := by omega
      go_wp2_with fail
      go_end0
      exact ⟨rfl, (HGW.out.wider (by simp)).trans HRJ.out.1, HRJ.out.2⟩

end Go.Proofs.YtlibflbpajeeeaaDoor

namespace Go.Proofs.YtlibflbpajeeeaaDoor
open Go.RowKit Go.Sort

/-- A picture of luma and chroma at block M, its numbers at three blocks. -/
structure YccAt (w : World) (M p0 p1 p2 : Nat) (wd ht : Nat) (L0 L1 L2 : List Int) : Prop where
  s0 : ∃ cap, w.cell? ⟨M, 0, none⟩ = some (.slice (some ⟨p0, 0, none⟩) (wd * ht) cap)
  s1 : ∃ cap, w.cell? ⟨M, 1, none⟩ = some (.slice (some ⟨p1, 0, none⟩) (wd * ht) cap)
  s2 : ∃ cap, w.cell? ⟨M, 2, none⟩ = some (.slice (some ⟨p2, 0, none⟩) (wd * ht) cap)
  ys : w.cell? ⟨M, 3, none⟩ = some (.int .i64 wd)
  cs : w.cell? ⟨M, 4, none⟩ = some (.int .i64 wd)
  ra : w.cell? ⟨M, 5, none⟩ = some (.int .i64 0)
  r0 : w.cell? ⟨M, 6, none⟩ = some (.int .i64 0)
  r1 : w.cell? ⟨M, 7, none⟩ = some (.int .i64 0)
  r2 : w.cell? ⟨M, 8, none⟩ = some (.int .i64 wd)
  r3 : w.cell? ⟨M, 9, none⟩ = some (.int .i64 ht)
  x0 : ∀ k, k < wd * ht → w.cell? ⟨p0, k, none⟩ = some (.int .u8 (L0.getD k 0))
  x1 : ∀ k, k < wd * ht → w.cell? ⟨p1, k, none⟩ = some (.int .u8 (L1.getD k 0))
  x2 : ∀ k, k < wd * ht → w.cell? ⟨p2, k, none⟩ = some (.int .u8 (L2.getD k 0))
  b8 : ∀ k, (0 ≤ L0.getD k 0 ∧ L0.getD k 0 ≤ 255) ∧ (0 ≤ L1.getD k 0 ∧ L1.getD k 0 ≤ 255) ∧ (0 ≤ L2.getD k 0 ∧ L2.getD k 0 ≤ 255)
  dim : 1 ≤ wd ∧ wd ≤ 100 ∧ 1 ≤ ht ∧ ht ≤ 100
  lt : p0 < w.heap.size ∧ p1 < w.heap.size ∧ p2 < w.heap.size

theorem YccAt.keeps {w w' : World} {M p0 p1 p2 wd ht : Nat} {L0 L1 L2 : List Int} {Ts : List Nat} (h : YccAt w M p0 p1 p2 wd ht L0 L1 L2) (k : Fills Ts w w') (hM1 : M ∉ Ts) (h0 : p0 ∉ Ts) (h1 : p1 ∉ Ts) (h2 : p2 ∉ Ts) : YccAt w' M p0 p1 p2 wd ht L0 L1 L2 := by
  have hM : M < w.heap.size := World.block_lt_of_cell? w _ h.ys
  have hc : ∀ j, w'.cell? ⟨M, j, none⟩ = w.cell? ⟨M, j, none⟩ := fun j => k.at (x := ⟨M, j, none⟩) hM hM1
  obtain ⟨c0, e0⟩ := h.s0
  obtain ⟨c1, e1⟩ := h.s1
  obtain ⟨c2, e2⟩ := h.s2
  obtain ⟨l0, l1, l2⟩ := h.lt
  exact ⟨⟨c0, (hc 0).trans e0⟩, ⟨c1, (hc 1).trans e1⟩, ⟨c2, (hc 2).trans e2⟩, (hc 3).trans h.ys, (hc 4).trans h.cs, (hc 5).trans h.ra, (hc 6).trans h.r0, (hc 7).trans h.r1, (hc 8).trans h.r2, (hc 9).trans h.r3,
    fun j hj => (k.at (x := ⟨p0, j, none⟩) l0 h0).trans (h.x0 j hj), fun j hj => (k.at (x := ⟨p1, j, none⟩) l1 h1).trans (h.x1 j hj), fun j hj => (k.at (x := ⟨p2, j, none⟩) l2 h2).trans (h.x2 j hj), h.b8, h.dim,
    Nat.lt_of_lt_of_le l0 k.size, Nat.lt_of_lt_of_le l1 k.size, Nat.lt_of_lt_of_le l2 k.size⟩

set_option maxRecDepth 100000 in
set_option maxHeartbeats 1000000 in
theorem yOffset_any (w : World) (M p0 p1 p2 wd ht : Nat) (L0 L1 L2 : List Int) (a b : Int) (h : YccAt w M p0 p1 p2 wd ht L0 L1 L2) (hx : (0 ≤ a ∧ a ≤ 1000) ∧ (0 ≤ b ∧ b ≤ 1000)) :
    Calls Tryd.prog 74 #[.pointer (some ⟨M, 0, none⟩), .int .i64 a, .int .i64 b] w fun e w' => e = .returned (.int .i64 (b * wd + a)) ∧ ∃ q, w' = w.drewN q := by
  have hr0 := h.r0
  have hr1 := h.r1
  have hst := h.ys
  obtain ⟨hd1, hd2, hd3, hd4⟩ := h.dim
  obtain ⟨⟨hx1, hx2⟩, hx3, hx4⟩ := hx
  have hm : b * (wd : Int) ≤ 1000 * 100 := Int.mul_le_mul (by omega) (by omega) (by omega) (by omega)
  have hm0 : (0 : Int) ≤ b * (wd : Int) := Int.mul_nonneg (by omega) (by omega)
  clear h
  go_enter Tryd.func74, Tryd.ntmps74
  go_wp2_with fail
  go_quiet (fail)
  go_wp2_with fail
  go_ret
  exact ⟨rfl, nq, rfl⟩

set_option maxRecDepth 100000 in
set_option maxHeartbeats 1000000 in
theorem cOffset_any (w : World) (M p0 p1 p2 wd ht : Nat) (L0 L1 L2 : List Int) (a b : Int) (h : YccAt w M p0 p1 p2 wd ht L0 L1 L2) (hx : (0 ≤ a ∧ a ≤ 1000) ∧ (0 ≤ b ∧ b ≤ 1000)) :
    Calls Tryd.prog 75 #[.pointer (some ⟨M, 0, none⟩), .int .i64 a, .int .i64 b] w fun e w' => e = .returned (.int .i64 (b * wd + a)) ∧ ∃ q, w' = w.drewN q := by
  have hr0 := h.r0
  have hr1 := h.r1
  have hst := h.cs
  have hra := h.ra
  obtain ⟨hd1, hd2, hd3, hd4⟩ := h.dim
  obtain ⟨⟨hx1, hx2⟩, hx3, hx4⟩ := hx
  have hm : b * (wd : Int) ≤ 1000 * 100 := Int.mul_le_mul (by omega) (by omega) (by omega) (by omega)
  have hm0 : (0 : Int) ≤ b * (wd : Int) := Int.mul_nonneg (by omega) (by omega)
  clear h
  go_enter Tryd.func75, Tryd.ntmps75
  go_wp2_with fail
  go_quiet (fail)
  go_wp2_with fail
  go_ret
  exact ⟨rfl, nq, rfl⟩

/-- The world at the head of the loops: two boxes and a rectangle's copy have been laid. -/
theorem grayW_at {w : World} {x y wd ht : Nat} {Ts : List Nat} {wr : World} (h : Fills Ts (grayW w x y wd ht) wr) (hT : ∀ b ∈ Ts, b < w.heap.size) :
    wr.cell? ⟨w.heap.size, 0, none⟩ = some (.int .i64 x) ∧ wr.cell? ⟨w.heap.size, 1, none⟩ = some (.int .i64 y) := by
  obtain ⟨h0, h1, h2⟩ := grayW_cell w x y wd ht
  have hn : w.heap.size ∉ Ts := fun hm => by have := hT _ hm; omega
  exact ⟨(h.at (x := ⟨w.heap.size, 0, none⟩) h2 hn).trans h0, (h.at (x := ⟨w.heap.size, 1, none⟩) h2 hn).trans h1⟩

/-- Three blocks of numbers, two of them from a place on, behind t steps. -/
structure TriRel (W0 : World) (B C R off : Nat) (g0 g1 g2 : Nat → Int) (d0 d1 d2 : Array Int) (t : Nat) (wr : World) : Prop where
  f : Fills [B, C, R] W0 wr
  h0 : Holds i32v wr B 0 (fillAt 0 g0 d0 t)
  h1 : Holds i32v wr C 0 (fillAt off g1 d1 t)
  h2 : Holds i32v wr R 0 (fillAt off g2 d2 t)

theorem TriRel.step {W0 : World} {B C R off : Nat} {g0 g1 g2 : Nat → Int} {d0 d1 d2 : Array Int} {t : Nat} {wr : World} (h : TriRel W0 B C R off g0 g1 g2 d0 d1 d2 t wr) (hn : B ≠ C ∧ B ≠ R ∧ C ≠ R) (m : Nat) (v0 v1 v2 : Int) (e0 : g0 t = v0) (e1 : g1 t = v1) (e2 : g2 t = v2) :
    TriRel W0 B C R off g0 g1 g2 d0 d1 d2 (t + 1) ((((wr.drewN m).setCell ⟨B, t, none⟩ (.int .i32 v0)).setCell ⟨C, off + t, none⟩ (.int .i32 v1)).setCell ⟨R, off + t, none⟩ (.int .i32 v2)) := by
  obtain ⟨n1, n2, n3⟩ := hn
  refine ⟨(((h.f.trans (Keeps.drew _ _ _ m)).trans (Keeps.setCell _ _ _ _ (by simp))).trans (Keeps.setCell _ _ _ _ (by simp))).trans (Keeps.setCell _ _ _ _ (by simp)), ?_, ?_, ?_⟩
  · simp only [fillAt]
    rw [e0, Nat.zero_add]
    exact holds_beside (holds_beside (holds_store (holds_same h.h0 rfl) t v0) _ _ (by show C ≠ B; exact fun e => n1 e.symm)) _ _ (by show R ≠ B; exact fun e => n2 e.symm)
  · simp only [fillAt]
    rw [e1]
    exact holds_beside (holds_store (holds_beside (holds_same h.h1 rfl) _ _ n1) (off + t) v1) _ _ (by show R ≠ C; exact fun e => n3 e.symm)
  · simp only [fillAt]
    rw [e2]
    exact holds_store (holds_beside (holds_beside (holds_same h.h2 rfl) _ _ n2) _ _ n3) (off + t) v2

theorem TriRel.drew1 {W0 : World} {B C R off : Nat} {g0 g1 g2 : Nat → Int} {d0 d1 d2 : Array Int} {t : Nat} {wr : World} (h : TriRel W0 B C R off g0 g1 g2 d0 d1 d2 t wr) : TriRel W0 B C R off g0 g1 g2 d0 d1 d2 t wr.drew :=
  ⟨h.f.trans (Keeps.drew _ _ _ 1), holds_same h.h0 rfl, holds_same h.h1 rfl, holds_same h.h2 rfl⟩

/-- The three targets are apart, and apart from what is read. -/
structure Tri (B C R : Nat) (avoid : List Nat) : Prop where
  n : B ≠ C ∧ B ≠ R ∧ C ≠ R
  a : ∀ m ∈ avoid, m ≠ B ∧ m ≠ C ∧ m ≠ R

set_option maxRecDepth 100000 in
set_option maxHeartbeats 2000000 in
theorem yccFill_any (w : World) (M p0 p1 p2 wd ht : Nat) (L0 L1 L2 : List Int) (x y B C R off : Nat) (d0 d1 d2 : Array Int) (h : YccAt w M p0 p1 p2 wd ht L0 L1 L2) (hx : x ≤ 200 ∧ y ≤ 200) (hd : d0.size = 64 ∧ d1.size = 256 ∧ d2.size = 256 ∧ off ≤ 192)
    (hh0 : Holds i32v w B 0 d0) (hh1 : Holds i32v w C 0 d1) (hh2 : Holds i32v w R 0 d2) (ht3 : Tri B C R [M, p0, p1, p2]) :
    Calls Tryd.prog 61 #[.pointer (some ⟨M, 0, none⟩), .agg #[.int .i64 x, .int .i64 y], .pointer (some ⟨B, 0, none⟩), .pointer (some ⟨C, off, none⟩), .pointer (some ⟨R, off, none⟩)] w fun e w' => e = .returned (.tuple #[]) ∧
      TriRel w B C R off (blkG (fun x y => L0.getD (y * wd + x) 0) wd ht x y) (blkG (fun x y => L1.getD (y * wd + x) 0) wd ht x y) (blkG (fun x y => L2.getD (y * wd + x) 0) wd ht x y) d0 d1 d2 64 w' := by
  obtain ⟨hd0, hd1', hd2', hoff⟩ := hd
  obtain ⟨len, hlen⟩ : ∃ len, len = wd * ht := ⟨_, rfl⟩
  have hr0 := h.r0
  have hr1 := h.r1
  have hr2 := h.r2
  have hr3 := h.r3
  have hM : M < w.heap.size := World.block_lt_of_cell? w _ h.ys
  have hBl : B < w.heap.size := World.block_lt_of_cell? w _ (holds_cell hh0 0 (by omega))
  have hCl : C < w.heap.size := World.block_lt_of_cell? w _ (holds_cell hh1 0 (by omega))
  have hRl : R < w.heap.size := World.block_lt_of_cell? w _ (holds_cell hh2 0 (by omega))
  obtain ⟨hd1, hd2, hd3, hd4⟩ := h.dim
  have hgw := grayW_fills w x y wd ht
  have hno : ∀ g, undef.ownBlock ≠ some g := fun g e => by cases e
  have hst : TriRel (grayW w x y wd ht) B C R off (blkG (fun x y => L0.getD (y * wd + x) 0) wd ht x y) (blkG (fun x y => L1.getD (y * wd + x) 0) wd ht x y) (blkG (fun x y => L2.getD (y * wd + x) 0) wd ht x y) d0 d1 d2 0 (grayW w x y wd ht) :=
    ⟨Keeps.refl _ _ _, holds_same hh0 (hgw.block B hBl (by simp) (hno _)), holds_same hh1 (hgw.block C hCl (by simp) (hno _)), holds_same hh2 (hgw.block R hRl (by simp) (hno _))⟩
  have hg0 := h.keeps hgw (by simp) (by simp) (by simp) (by simp)
  obtain ⟨g0, hg0e⟩ : ∃ g, g = blkG (fun x y => L0.getD (y * wd + x) 0) wd ht x y := ⟨_, rfl⟩
  obtain ⟨g1, hg1e⟩ : ∃ g, g = blkG (fun x y => L1.getD (y * wd + x) 0) wd ht x y := ⟨_, rfl⟩
  obtain ⟨g2, hg2e⟩ : ∃ g, g = blkG (fun x y => L2.getD (y * wd + x) 0) wd ht x y := ⟨_, rfl⟩
  rw [← hg0e, ← hg1e, ← hg2e] at hst
  rw [← hg0e, ← hg1e, ← hg2e]
  have HE := Lib.hid (And.intro hg0e (And.intro hg1e hg2e))
  have HLEN := Lib.hid hlen
  have HST := Lib.hid hst
  have HG := Lib.hid hg0
  have HGW := Lib.hid hgw
  have HD := Lib.hid (And.intro hd0 (And.intro hd1' hd2'))
  have HBL := Lib.hid (And.intro hBl (And.intro hCl hRl))
  have HTRI := Lib.hid ht3
  clear h hh0 hh1 hh2 hlen hst hg0 hgw hBl hCl hRl hno hg0e hg1e hg2e ht3 hd0 hd1' hd2'
  go_enter Tryd.func61, Tryd.ntmps61
  go_wp2_with (go_in)
  go_loopw [13, 14, 15, 16, 17, 18] (fun jv _ _ _ _ _ wr => ∃ j : Nat, j ≤ 8 ∧ jv = .int .i64 j ∧ TriRel (grayW w x y wd ht) B C R off g0 g1 g2 d0 d1 d2 (8 * j) wr) (fun jv _ _ _ _ _ _ => 8 - (intOf jv).toNat)
  case atStart => exact ⟨0, by omega, rfl, HST.out⟩
  case round =>
    obtain ⟨j, hj, rfl, hrj⟩ := hrel
    have HRJ := Lib.hid hrj
    have hPj := grayW_at hrj.f (by simp; exact HBL.out)
    obtain ⟨hPx, hPy⟩ := hPj
    clear hrj hr0 hr1 hr2 hr3
    by_cases hj8 : j < 8
    · have hjb : decide ((j : Int) < 8) = true := by simp; omega
      obtain ⟨wo, rfl⟩ : ∃ wo : World, wo = wr := ⟨_, rfl⟩
      have hsy : ∀ sy : Int, (decide ((ht : Int) - 1 < (y : Int) + j) = true → sy = ht - 1) → (decide ((ht : Int) - 1 < (y : Int) + j) = false → sy = y + j) → sy = ((min (y + j) (ht - 1) : Nat) : Int) := by
        intro sy h1 h2
        cases hc : decide ((ht : Int) - 1 < (y : Int) + j)
        · have := h2 hc; have := of_decide_eq_false hc; omega
        · have := h1 hc; have := of_decide_eq_true hc; omega
      have HSY := Lib.hid hsy
      clear hsy
      cases hc : decide ((ht : Int) - 1 < (y : Int) + j)
      all_goals
        first
          | (have hcc : ¬ (ht : Int) - 1 < (y : Int) + j := of_decide_eq_false hc)
          | (have hcc : (ht : Int) - 1 < (y : Int) + j := of_decide_eq_true hc)
        go_wp2_with fail
        go_loopw [15, 16, 17, 18] (fun iv _ _ _ wr => ∃ i : Nat, i ≤ 8 ∧ iv = .int .i64 i ∧ TriRel (grayW w x y wd ht) B C R off g0 g1 g2 d0 d1 d2 (8 * j + i) wr) (fun iv _ _ _ _ => 8 - (intOf iv).toNat)
        case atStart => exact ⟨0, by omega, rfl, HRJ.out⟩
        case round =>
          obtain ⟨i, hi, rfl, hri⟩ := hrel
          have HRI := Lib.hid hri
          by_cases hi8 : i < 8
          · have hib : decide ((i : Int) < 8) = true := by simp; omega
            obtain ⟨hPx, hPy⟩ := grayW_at hri.f (by simp; exact HBL.out)
            obtain ⟨⟨n1, n2, n3⟩, hav⟩ := HTRI.out
            have aM := hav M (by simp)
            have a0 := hav p0 (by simp)
            have a1 := hav p1 (by simp)
            have a2 := hav p2 (by simp)
            have hG := HG.out.keeps hri.f (by simp; exact aM) (by simp; exact a0) (by simp; exact a1) (by simp; exact a2)
            obtain ⟨n, hn⟩ : ∃ n, n = min (y + j) (ht - 1) * wd + min (x + i) (wd - 1) := ⟨_, rfl⟩
            have hnl : n < len := by
              rw [hn, HLEN.out]
              have h1 : min (y + j) (ht - 1) + 1 ≤ ht := by omega
              have h2 := Nat.mul_le_mul_right wd h1
              rw [Nat.add_mul, Nat.mul_comm ht wd] at h2
              omega
            have hpx0 := hG.x0 n (by rw [← HLEN.out]; exact hnl)
            have hpx1 := hG.x1 n (by rw [← HLEN.out]; exact hnl)
            have hpx2 := hG.x2 n (by rw [← HLEN.out]; exact hnl)
            obtain ⟨⟨b00, b01⟩, ⟨b10, b11⟩, b20, b21⟩ := hG.b8 n
            have hval : ∀ L : List Int, blkG (fun x y => L.getD (y * wd + x) 0) wd ht x y (8 * j + i) = L.getD n 0 := by
              intro L
              unfold blkG
              rw [show (8 * j + i) % 8 = i by omega, show (8 * j + i) / 8 = j by omega, hn]
            have hv0 : g0 (8 * j + i) = L0.getD n 0 := by rw [HE.out.1]; exact hval L0
            have hv1 : g1 (8 * j + i) = L1.getD n 0 := by rw [HE.out.2.1]; exact hval L1
            have hv2 : g2 (8 * j + i) = L2.getD n 0 := by rw [HE.out.2.2]; exact hval L2
            have hyo : ∀ a b : Int, a = ((min (x + i) (wd - 1) : Nat) : Int) → b = ((min (y + j) (ht - 1) : Nat) : Int) → Calls Tryd.prog 74 #[.pointer (some ⟨M, 0, none⟩), .int .i64 a, .int .i64 b] wr fun e w' => e = .returned (.int .i64 n) ∧ ∃ q, w' = wr.drewN q := by
              intro a b ha hb
              have := yOffset_any wr M p0 p1 p2 wd ht L0 L1 L2 a b hG (by omega)
              have e : b * (wd : Int) + a = (n : Int) := by rw [ha, hb, hn]; norm_cast
              rw [e] at this
              exact this
            have hco : ∀ (q : Nat) (a b : Int), a = ((min (x + i) (wd - 1) : Nat) : Int) → b = ((min (y + j) (ht - 1) : Nat) : Int) → Calls Tryd.prog 75 #[.pointer (some ⟨M, 0, none⟩), .int .i64 a, .int .i64 b] (wr.drewN q) fun e w' => e = .returned (.int .i64 n) ∧ ∃ q', w' = wr.drewN q' := by
              intro q a b ha hb
              have := cOffset_any (wr.drewN q) M p0 p1 p2 wd ht L0 L1 L2 a b (hG.keeps (Keeps.drew [] undef wr q) (by simp) (by simp) (by simp) (by simp)) (by omega)
              have e : b * (wd : Int) + a = (n : Int) := by rw [ha, hb, hn]; norm_cast
              rw [e] at this
              exact this.mono fun _ _ ⟨h1, q', h2⟩ => ⟨h1, q + q', by rw [h2, World.drewN_drewN]⟩
            have hcb := holds_cell hri.h0 (8 * j + i) (by rw [fillAt_size, HD.out.1]; omega)
            have hfb := (hri.h0 (8 * j + i) (by rw [fillAt_size, HD.out.1]; omega)).2
            have hcc1 := holds_cell hri.h1 (off + (8 * j + i)) (by rw [fillAt_size, HD.out.2.1]; omega)
            have hfc1 := (hri.h1 (off + (8 * j + i)) (by rw [fillAt_size, HD.out.2.1]; omega)).2
            have hcr1 := holds_cell hri.h2 (off + (8 * j + i)) (by rw [fillAt_size, HD.out.2.2]; omega)
            have hfr1 := (hri.h2 (off + (8 * j + i)) (by rw [fillAt_size, HD.out.2.2]; omega)).2
            rw [Nat.zero_add] at hfb hfc1 hfr1
            obtain ⟨c0, hs0⟩ := hG.s0
            obtain ⟨c1, hs1⟩ := hG.s1
            obtain ⟨c2, hs2⟩ := hG.s2
            rw [← HLEN.out] at hs0 hs1 hs2
            obtain ⟨z0, hz0⟩ : ∃ z, z = (fillAt 0 g0 d0 (8 * j + i))[8 * j + i]! := ⟨_, rfl⟩
            obtain ⟨z1, hz1⟩ : ∃ z, z = (fillAt off g1 d1 (8 * j + i))[off + (8 * j + i)]! := ⟨_, rfl⟩
            obtain ⟨z2, hz2⟩ : ∃ z, z = (fillAt off g2 d2 (8 * j + i))[off + (8 * j + i)]! := ⟨_, rfl⟩
            rw [← hz0] at hcb
            rw [← hz1] at hcc1
            rw [← hz2] at hcr1
            obtain ⟨v0, hv0'⟩ : ∃ v, v = L0.getD n 0 := ⟨_, rfl⟩
            obtain ⟨v1, hv1'⟩ : ∃ v, v = L1.getD n 0 := ⟨_, rfl⟩
            obtain ⟨v2, hv2'⟩ : ∃ v, v = L2.getD n 0 := ⟨_, rfl⟩
            rw [← hv0'] at hpx0 hv0 b00 b01
            rw [← hv1'] at hpx1 hv1 b10 b11
            rw [← hv2'] at hpx2 hv2 b20 b21
            have HYO := Lib.hid hyo
            have HCO := Lib.hid hco
            have HV := Lib.hid (And.intro hv0 (And.intro hv1 hv2))
            have hi1 : (0 : Int) ≤ 8 * (j : Int) + (i : Int) := by omega
            have hi2 : 8 * (j : Int) + (i : Int) < 64 := by omega
            have hi3 : (8 * (j : Int) + (i : Int)).toNat = 8 * j + i := by omega
            have hnl2 : (n : Int) < (len : Int) := by omega
            obtain ⟨aM0, aM1, aM2⟩ := aM
            obtain ⟨a00, a01, a02⟩ := a0
            obtain ⟨a10, a11, a12⟩ := a1
            obtain ⟨a20, a21, a22⟩ := a2
            clear hri hG hyo hco hval hn hz0 hz1 hz2 hv0' hv1' hv2' hv0 hv1 hv2 hav
            go_wp2_with fail
            all_goals
              refine (HYO.out _ _ (by omega) (by omega)).mono ?_
              rintro e w2 ⟨rfl, q, rfl⟩
              go_wp2_with fail
              refine (HCO.out _ _ _ (by omega) (by omega)).mono ?_
              rintro e w2 ⟨rfl, q2, rfl⟩
              go_wp2_with fail
              go_region
            all_goals
              go_wp2_with fail
              go_region
            all_goals
              go_wp2_with fail
              go_region
            all_goals
              go_wp2_with fail
              go_roundw
            all_goals first
              | exact ⟨i + 1, by omega, by go_num, ((HRI.out.step ⟨n1, n2, n3⟩ _ v0 v1 v2 HV.out.1 HV.out.2.1 HV.out.2.2).drew1).drew1⟩
              | (simp [intOf]; omega)
          · obtain rfl : i = 8 := by omega
            go_wp2_with fail
            go_roundw
            case rel => exact ⟨j + 1, by omega, by go_num, HRI.out⟩
            case measure => simp [intOf]; omega
    · obtain rfl : j = 8 := by omega
      go_wp2_with fail
      go_end0
      exact ⟨rfl, (HGW.out.wider (by simp)).trans HRJ.out.f, HRJ.out.h0, HRJ.out.h1, HRJ.out.h2⟩

end Go.Proofs.YtlibflbpajeeeaaDoor

namespace Go.Proofs.YtlibflbpajeeeaaDoor
open Go.RowKit Go.Sort

/-- A picture of red, green, blue and opacity at block M, its numbers at block pb. -/
structure RgbAt (w : World) (M pb : Nat) (wd ht : Nat) (L : List Int) : Prop where
  pix : ∃ cap, 4 * (wd * ht) ≤ cap ∧ w.cell? ⟨M, 0, none⟩ = some (.slice (some ⟨pb, 0, none⟩) (4 * (wd * ht)) cap)
  st : w.cell? ⟨M, 1, none⟩ = some (.int .i64 (4 * wd))
  r0 : w.cell? ⟨M, 2, none⟩ = some (.int .i64 0)
  r1 : w.cell? ⟨M, 3, none⟩ = some (.int .i64 0)
  r2 : w.cell? ⟨M, 4, none⟩ = some (.int .i64 wd)
  r3 : w.cell? ⟨M, 5, none⟩ = some (.int .i64 ht)
  px : ∀ k, k < 4 * (wd * ht) → w.cell? ⟨pb, k, none⟩ = some (.int .u8 (L.getD k 0))
  by8 : ∀ k, 0 ≤ L.getD k 0 ∧ L.getD k 0 ≤ 255
  dim : 1 ≤ wd ∧ wd ≤ 100 ∧ 1 ≤ ht ∧ ht ≤ 100
  lt : pb < w.heap.size

theorem RgbAt.keeps {w w' : World} {M pb wd ht : Nat} {L : List Int} {Ts : List Nat} (h : RgbAt w M pb wd ht L) (k : Fills Ts w w') (h1 : M ∉ Ts) (h2 : pb ∉ Ts) : RgbAt w' M pb wd ht L := by
  have hM : M < w.heap.size := World.block_lt_of_cell? w _ h.st
  have hc : ∀ j, w'.cell? ⟨M, j, none⟩ = w.cell? ⟨M, j, none⟩ := fun j => k.at (x := ⟨M, j, none⟩) hM h1
  obtain ⟨cap, hcp, hp⟩ := h.pix
  exact ⟨⟨cap, hcp, (hc 0).trans hp⟩, (hc 1).trans h.st, (hc 2).trans h.r0, (hc 3).trans h.r1, (hc 4).trans h.r2, (hc 5).trans h.r3, fun j hj => (k.at (x := ⟨pb, j, none⟩) h.lt h2).trans (h.px j hj), h.by8, h.dim, Nat.lt_of_lt_of_le h.lt k.size⟩

/-- The first of a pixel's four numbers. -/
def pxAt (wd x y : Nat) : Nat := 4 * (y * wd + x)
def rgbY (L : List Int) (wd x y : Nat) : Int := lumaOf (L.getD (pxAt wd x y) 0) (L.getD (pxAt wd x y + 1) 0) (L.getD (pxAt wd x y + 2) 0)
def rgbCb (L : List Int) (wd x y : Nat) : Int := cbOf (L.getD (pxAt wd x y) 0) (L.getD (pxAt wd x y + 1) 0) (L.getD (pxAt wd x y + 2) 0)
def rgbCr (L : List Int) (wd x y : Nat) : Int := crOf (L.getD (pxAt wd x y) 0) (L.getD (pxAt wd x y + 1) 0) (L.getD (pxAt wd x y + 2) 0)

theorem grayW_b {w : World} {x y wd ht : Nat} {Ts : List Nat} {wr : World} (h : Fills Ts (grayW w x y wd ht) wr) (hT : ∀ b ∈ Ts, b < w.heap.size) :
    wr.cell? ⟨w.heap.size + 1 + 1, 0, none⟩ = some (.int .i64 0) ∧ wr.cell? ⟨w.heap.size + 1 + 1, 1, none⟩ = some (.int .i64 0) := by
  have hn : w.heap.size + 1 + 1 ∉ Ts := fun hm => by have := hT _ hm; omega
  have hl : w.heap.size + 1 + 1 < (grayW w x y wd ht).heap.size := by unfold grayW; simp
  have hb : (grayW w x y wd ht).heap[w.heap.size + 1 + 1]? = some (.cells #[.int .i64 0, .int .i64 0, .int .i64 wd, .int .i64 ht] 88) := heap_alloc3_new _ _ _ _
  refine ⟨(h.at (x := ⟨w.heap.size + 1 + 1, 0, none⟩) hl hn).trans ?_, (h.at (x := ⟨w.heap.size + 1 + 1, 1, none⟩) hl hn).trans ?_⟩
  · rw [cell_of_row _ _ _ _ 88 (0, 0) hb]; rfl
  · rw [cell_of_row _ _ _ _ 88 (0, 0) hb]; rfl

theorem TriRel.drewq {W0 : World} {B C R off : Nat} {g0 g1 g2 : Nat → Int} {d0 d1 d2 : Array Int} {t : Nat} {wr : World} (h : TriRel W0 B C R off g0 g1 g2 d0 d1 d2 t wr) (q : Nat) : TriRel W0 B C R off g0 g1 g2 d0 d1 d2 t (wr.drewN q) :=
  ⟨h.f.trans (Keeps.drew _ _ _ q), holds_same h.h0 rfl, holds_same h.h1 rfl, holds_same h.h2 rfl⟩

set_option maxRecDepth 100000 in
set_option maxHeartbeats 2000000 in
theorem rgbFill_any (w : World) (M pb wd ht : Nat) (L : List Int) (x y B C R off : Nat) (d0 d1 d2 : Array Int) (h : RgbAt w M pb wd ht L) (hx : x ≤ 200 ∧ y ≤ 200) (hd : d0.size = 64 ∧ d1.size = 256 ∧ d2.size = 256 ∧ off ≤ 192)
    (hh0 : Holds i32v w B 0 d0) (hh1 : Holds i32v w C 0 d1) (hh2 : Holds i32v w R 0 d2) (ht3 : Tri B C R [M, pb]) :
    Calls Tryd.prog 60 #[.pointer (some ⟨M, 0, none⟩), .agg #[.int .i64 x, .int .i64 y], .pointer (some ⟨B, 0, none⟩), .pointer (some ⟨C, off, none⟩), .pointer (some ⟨R, off, none⟩)] w fun e w' => e = .returned (.tuple #[]) ∧
      TriRel w B C R off (blkG (rgbY L wd) wd ht x y) (blkG (rgbCb L wd) wd ht x y) (blkG (rgbCr L wd) wd ht x y) d0 d1 d2 64 w' := by
  obtain ⟨hd0, hd1', hd2', hoff⟩ := hd
  obtain ⟨len, hlen⟩ : ∃ len, len = 4 * (wd * ht) := ⟨_, rfl⟩
  obtain ⟨stv, hstv⟩ : ∃ s : Int, s = 4 * (wd : Int) := ⟨_, rfl⟩
  have hr0 := h.r0
  have hr1 := h.r1
  have hr2 := h.r2
  have hr3 := h.r3
  have hM : M < w.heap.size := World.block_lt_of_cell? w _ h.st
  have hBl : B < w.heap.size := World.block_lt_of_cell? w _ (holds_cell hh0 0 (by omega))
  have hCl : C < w.heap.size := World.block_lt_of_cell? w _ (holds_cell hh1 0 (by omega))
  have hRl : R < w.heap.size := World.block_lt_of_cell? w _ (holds_cell hh2 0 (by omega))
  obtain ⟨hd1, hd2, hd3, hd4⟩ := h.dim
  have hgw := grayW_fills w x y wd ht
  have hno : ∀ g, undef.ownBlock ≠ some g := fun g e => by cases e
  have hst : TriRel (grayW w x y wd ht) B C R off (blkG (rgbY L wd) wd ht x y) (blkG (rgbCb L wd) wd ht x y) (blkG (rgbCr L wd) wd ht x y) d0 d1 d2 0 (grayW w x y wd ht) :=
    ⟨Keeps.refl _ _ _, holds_same hh0 (hgw.block B hBl (by simp) (hno _)), holds_same hh1 (hgw.block C hCl (by simp) (hno _)), holds_same hh2 (hgw.block R hRl (by simp) (hno _))⟩
  have hg0 := h.keeps hgw (by simp) (by simp)
  obtain ⟨g0, hg0e⟩ : ∃ g, g = blkG (rgbY L wd) wd ht x y := ⟨_, rfl⟩
  obtain ⟨g1, hg1e⟩ : ∃ g, g = blkG (rgbCb L wd) wd ht x y := ⟨_, rfl⟩
  obtain ⟨g2, hg2e⟩ : ∃ g, g = blkG (rgbCr L wd) wd ht x y := ⟨_, rfl⟩
  rw [← hg0e, ← hg1e, ← hg2e] at hst
  rw [← hg0e, ← hg1e, ← hg2e]
  have HE := Lib.hid (And.intro hg0e (And.intro hg1e hg2e))
  have HLEN := Lib.hid hlen
  have HST := Lib.hid hst
  have HSTV := Lib.hid hstv
  have HG := Lib.hid hg0
  have HGW := Lib.hid hgw
  have HD := Lib.hid (And.intro hd0 (And.intro hd1' hd2'))
  have HBL := Lib.hid (And.intro hBl (And.intro hCl hRl))
  have HTRI := Lib.hid ht3
  have hstb : 4 ≤ stv ∧ stv ≤ 400 := by omega
  clear h hh0 hh1 hh2 hlen hst hg0 hgw hBl hCl hRl hno hg0e hg1e hg2e ht3 hd0 hd1' hd2' hstv
  go_enter Tryd.func60, Tryd.ntmps60
  go_wp2_with (go_in)
  go_loopw [13, 14, 15, 16, 17, 18, 19, 20, 21] (fun jv _ _ _ _ _ _ _ _ wr => ∃ j : Nat, j ≤ 8 ∧ jv = .int .i64 j ∧ TriRel (grayW w x y wd ht) B C R off g0 g1 g2 d0 d1 d2 (8 * j) wr) (fun jv _ _ _ _ _ _ _ _ _ => 8 - (intOf jv).toNat)
  case atStart => exact ⟨0, by omega, rfl, HST.out⟩
  case round =>
    obtain ⟨j, hj, rfl, hrj⟩ := hrel
    have HRJ := Lib.hid hrj
    obtain ⟨hPx, hPy⟩ := grayW_at hrj.f (by simp; exact HBL.out)
    obtain ⟨hB0, hB1⟩ := grayW_b hrj.f (by simp; exact HBL.out)
    clear hr0 hr1 hr2 hr3
    by_cases hj8 : j < 8
    · have hjb : decide ((j : Int) < 8) = true := by simp; omega
      have hG := HG.out.keeps hrj.f (by simp; exact HTRI.out.a M (by simp)) (by simp; exact HTRI.out.a pb (by simp))
      have hst := hG.st
      rw [← HSTV.out] at hst
      obtain ⟨sN, hsN⟩ : ∃ s, s = min (y + j) (ht - 1) := ⟨_, rfl⟩
      have hp1 : (sN : Int) * stv ≤ 100 * 400 := Int.mul_le_mul (by omega) (by omega) (by omega) (by omega)
      have hp0 : (0 : Int) ≤ (sN : Int) * stv := Int.mul_nonneg (by omega) (by omega)
      have HSN := Lib.hid hsN
      clear hG hrj
      obtain ⟨wo, rfl⟩ : ∃ wo : World, wo = wr := ⟨_, rfl⟩
      cases hc : decide ((ht : Int) - 1 < (y : Int) + j)
      all_goals
        first
          | (have hcc : ¬ (ht : Int) - 1 < (y : Int) + j := of_decide_eq_false hc; have hsE : (sN : Int) = (y : Int) + j := by omega)
          | (have hcc : (ht : Int) - 1 < (y : Int) + j := of_decide_eq_true hc; have hsE : (sN : Int) = (ht : Int) - 1 := by omega)
        rw [hsE] at hp1 hp0
        have HSE := Lib.hid hsE
        clear hsE hsN
        go_wp2_with fail
        go_quiet (fail)
        go_wp2_with fail
        go_loopw [16, 17, 18, 19, 20, 21] (fun iv _ _ _ _ _ wr => ∃ i : Nat, i ≤ 8 ∧ iv = .int .i64 i ∧ TriRel (grayW w x y wd ht) B C R off g0 g1 g2 d0 d1 d2 (8 * j + i) wr) (fun iv _ _ _ _ _ _ => 8 - (intOf iv).toNat)
        case atStart => exact ⟨0, by omega, rfl, HRJ.out.drewq nq⟩
        case round =>
          obtain ⟨i, hi, rfl, hri⟩ := hrel
          have HRI := Lib.hid hri
          by_cases hi8 : i < 8
          · have hib : decide ((i : Int) < 8) = true := by simp; omega
            obtain ⟨hPx, hPy⟩ := grayW_at hri.f (by simp; exact HBL.out)
            obtain ⟨⟨n1, n2, n3⟩, hav⟩ := HTRI.out
            have aM := hav M (by simp)
            have a0 := hav pb (by simp)
            have hG := HG.out.keeps hri.f (by simp; exact aM) (by simp; exact a0)
            obtain ⟨xN, hxN⟩ : ∃ s, s = min (x + i) (wd - 1) := ⟨_, rfl⟩
            obtain ⟨o, ho⟩ : ∃ o, o = 4 * (sN * wd + xN) := ⟨_, rfl⟩
            have hol : o + 4 ≤ len := by
              rw [ho, HLEN.out]
              have h1 : sN + 1 ≤ ht := by rw [HSN.out]; omega
              have h2 := Nat.mul_le_mul_right wd h1
              rw [Nat.add_mul, Nat.mul_comm ht wd] at h2
              omega
            have hkey : (sN : Int) * stv + (xN : Int) * 4 = (o : Int) := by
              rw [HSTV.out, ho]
              have e : (sN : Int) * (4 * (wd : Int)) = 4 * ((sN : Int) * wd) := by rw [← Int.mul_assoc, Int.mul_comm (sN : Int) 4, Int.mul_assoc]
              rw [e]
              push_cast
              omega
            have hpx0 := hG.px o (by rw [← HLEN.out]; omega)
            have hpx1 := hG.px (o + 1) (by rw [← HLEN.out]; omega)
            have hpx2 := hG.px (o + 2) (by rw [← HLEN.out]; omega)
            have b0 := hG.by8 o
            have b1 := hG.by8 (o + 1)
            have b2 := hG.by8 (o + 2)
            have hsE := HSE.out
            have hpo : pxAt wd xN sN = o := by rw [ho]; rfl
            have hval : ∀ f : Int → Int → Int → Int, blkG (fun x y => f (L.getD (pxAt wd x y) 0) (L.getD (pxAt wd x y + 1) 0) (L.getD (pxAt wd x y + 2) 0)) wd ht x y (8 * j + i) = f (L.getD o 0) (L.getD (o + 1) 0) (L.getD (o + 2) 0) := by
              intro f
              unfold blkG
              rw [show (8 * j + i) % 8 = i by omega, show (8 * j + i) / 8 = j by omega, ← HSN.out, ← hxN]
              simp only [hpo]
            have hv0 : g0 (8 * j + i) = lumaOf (L.getD o 0) (L.getD (o + 1) 0) (L.getD (o + 2) 0) := by rw [HE.out.1]; exact hval lumaOf
            have hv1 : g1 (8 * j + i) = cbOf (L.getD o 0) (L.getD (o + 1) 0) (L.getD (o + 2) 0) := by rw [HE.out.2.1]; exact hval cbOf
            have hv2 : g2 (8 * j + i) = crOf (L.getD o 0) (L.getD (o + 1) 0) (L.getD (o + 2) 0) := by rw [HE.out.2.2]; exact hval crOf
            have hrgb := fun u => rgb_any (L.getD o 0) (L.getD (o + 1) 0) (L.getD (o + 2) 0) u b0 b1 b2
            obtain ⟨⟨b00, b01⟩, ⟨b10, b11⟩, b20, b21⟩ := byte_ycc (L.getD o 0) (L.getD (o + 1) 0) (L.getD (o + 2) 0) b0 b1 b2
            have hcb := holds_cell hri.h0 (8 * j + i) (by rw [fillAt_size, HD.out.1]; omega)
            have hfb := (hri.h0 (8 * j + i) (by rw [fillAt_size, HD.out.1]; omega)).2
            have hcc1 := holds_cell hri.h1 (off + (8 * j + i)) (by rw [fillAt_size, HD.out.2.1]; omega)
            have hfc1 := (hri.h1 (off + (8 * j + i)) (by rw [fillAt_size, HD.out.2.1]; omega)).2
            have hcr1 := holds_cell hri.h2 (off + (8 * j + i)) (by rw [fillAt_size, HD.out.2.2]; omega)
            have hfr1 := (hri.h2 (off + (8 * j + i)) (by rw [fillAt_size, HD.out.2.2]; omega)).2
            rw [Nat.zero_add] at hfb hfc1 hfr1
            obtain ⟨cap, hcap, hs0⟩ := hG.pix
            rw [← HLEN.out] at hs0 hcap
            obtain ⟨z0, hz0⟩ : ∃ z, z = (fillAt 0 g0 d0 (8 * j + i))[8 * j + i]! := ⟨_, rfl⟩
            obtain ⟨z1, hz1⟩ : ∃ z, z = (fillAt off g1 d1 (8 * j + i))[off + (8 * j + i)]! := ⟨_, rfl⟩
            obtain ⟨z2, hz2⟩ : ∃ z, z = (fillAt off g2 d2 (8 * j + i))[off + (8 * j + i)]! := ⟨_, rfl⟩
            rw [← hz0] at hcb
            rw [← hz1] at hcc1
            rw [← hz2] at hcr1
            obtain ⟨rr, hrr⟩ : ∃ v, v = L.getD o 0 := ⟨_, rfl⟩
            obtain ⟨gg, hgg⟩ : ∃ v, v = L.getD (o + 1) 0 := ⟨_, rfl⟩
            obtain ⟨bb, hbb⟩ : ∃ v, v = L.getD (o + 2) 0 := ⟨_, rfl⟩
            rw [← hrr] at hpx0 b0
            rw [← hgg] at hpx1 b1
            rw [← hbb] at hpx2 b2
            rw [← hrr, ← hgg, ← hbb] at hv0 hv1 hv2 b00 b01 b10 b11 b20 b21
            have hrgb2 := hrgb
            rw [← hrr, ← hgg, ← hbb] at hrgb2
            obtain ⟨v0, hv0'⟩ : ∃ v, v = lumaOf rr gg bb := ⟨_, rfl⟩
            obtain ⟨v1, hv1'⟩ : ∃ v, v = cbOf rr gg bb := ⟨_, rfl⟩
            obtain ⟨v2, hv2'⟩ : ∃ v, v = crOf rr gg bb := ⟨_, rfl⟩
            rw [← hv0', ← hv1', ← hv2'] at hrgb2
            rw [← hv0'] at hv0 b00 b01
            rw [← hv1'] at hv1 b10 b11
            rw [← hv2'] at hv2 b20 b21
            have HRGB := Lib.hid hrgb2
            have HV := Lib.hid (And.intro hv0 (And.intro hv1 hv2))
            have hi1 : (0 : Int) ≤ 8 * (j : Int) + (i : Int) := by omega
            have hi2 : 8 * (j : Int) + (i : Int) < 64 := by omega
            have hi3 : (8 * (j : Int) + (i : Int)).toNat = 8 * j + i := by omega
            obtain ⟨aM0, aM1, aM2⟩ := aM
            obtain ⟨a00, a01, a02⟩ := a0
            have HKEY := Lib.hid hkey
            have HXN := Lib.hid hxN
            clear hri hG hrgb hrgb2 hval ho hz0 hz1 hz2 hv0' hv1' hv2' hv0 hv1 hv2 hav hrr hgg hbb hkey hxN hpo
            cases hc2 : decide ((wd : Int) - 1 < (x : Int) + i)
            all_goals
              first
                | (have hcc2 : ¬ (wd : Int) - 1 < (x : Int) + i := of_decide_eq_false hc2; have hxE : (xN : Int) = (x : Int) + i := by rw [HXN.out]; omega)
                | (have hcc2 : (wd : Int) - 1 < (x : Int) + i := of_decide_eq_true hc2; have hxE : (xN : Int) = (wd : Int) - 1 := by rw [HXN.out]; omega)
              have hoE := HKEY.out
              rw [hsE, hxE] at hoE
              have hol2 : (o : Int) ≤ (len : Int) := by omega
              have hol3 : (o : Int) ≤ (cap : Int) := by omega
              have hl0 : (0 : Int) < ((len - o : Nat) : Int) := by omega
              have hl1 : (1 : Int) < ((len - o : Nat) : Int) := by omega
              have hl2 : (2 : Int) < ((len - o : Nat) : Int) := by omega
              clear hxE
              go_wp2_with fail
              go_quiet ((go_at_call 72; refine Calls.quiet_of_same (HRGB.out _)))
              go_wp2_with fail
              go_roundw
            all_goals first
              | exact ⟨i + 1, by omega, by go_num, HRI.out.step ⟨n1, n2, n3⟩ _ v0 v1 v2 HV.out.1 HV.out.2.1 HV.out.2.2⟩
              | (simp [intOf]; omega)
             
          · obtain rfl : i = 8 := by omega
            go_wp2_with fail
            go_roundw
            case rel => exact ⟨j + 1, by omega, by go_num, HRI.out⟩
            case measure => simp [intOf]; omega
    · obtain rfl : j = 8 := by omega
      go_wp2_with fail
      go_end0
      exact ⟨rfl, (HGW.out.wider (by simp)).trans HRJ.out.f, HRJ.out.h0, HRJ.out.h1, HRJ.out.h2⟩

end Go.Proofs.YtlibflbpajeeeaaDoor

namespace Go.Proofs.YtlibflbpajeeeaaDoor
open Go.RowKit Go.Sort

/-- A block from its numbers. -/
def blkA (g : Nat → Int) : Array Int := (Array.range 64).map g
theorem blkA_size (g : Nat → Int) : (blkA g).size = 64 := by simp [blkA]
theorem blkA_get (g : Nat → Int) (j : Nat) (hj : j < 64) : (blkA g)[j]! = g j := by
  rw [getElem!_pos _ j (by rw [blkA_size]; exact hj)]
  simp [blkA]
theorem array_ext64 (a b : Array Int) (n : Nat) (ha : a.size = n) (hb : b.size = n) (h : ∀ j, j < n → a[j]! = b[j]!) : a = b := by
  apply Array.ext
  · omega
  · intro j h1 h2
    have := h j (by omega)
    rw [getElem!_pos a j h1, getElem!_pos b j h2] at this
    exact this
theorem fillAt_blk (g : Nat → Int) (d : Array Int) (hd : d.size = 64) : fillAt 0 g d 64 = blkA g := by
  refine array_ext64 _ _ 64 (by rw [fillAt_size]; exact hd) (blkA_size g) fun j hj => ?_
  rw [fillAt_get 0 g d 64 j (by omega) (by omega), if_pos (by omega), blkA_get g j hj, Nat.sub_zero]

/-- What has been written, and the three last first numbers. -/
structure Sc where
  s : St
  l0 : Int
  l1 : Int
  l2 : Int

def putBlk (Q : Nat → Nat → Int) (c q : Nat) (d : Array Int) (a : Sc) : Sc :=
  match c with
  | 0 => ⟨blockOut a.s q a.l0 (quantd (Q q) d), quantd (Q q) d 0, a.l1, a.l2⟩
  | 1 => ⟨blockOut a.s q a.l1 (quantd (Q q) d), a.l0, quantd (Q q) d 0, a.l2⟩
  | _ => ⟨blockOut a.s q a.l2 (quantd (Q q) d), a.l0, a.l1, quantd (Q q) d 0⟩

def lumaB (f : Nat → Nat → Int) (wd ht x y : Nat) : Array Int := blkA (blkG f wd ht x y)
/-- Four blocks as one of 256 numbers. -/
def four (f : Nat → Nat → Int) (wd ht x y : Nat) (m : Nat) : Int := blkG f wd ht (x + m / 64 % 2 * 8) (y + m / 64 / 2 * 8) (m % 64)
def fourA (f : Nat → Nat → Int) (wd ht x y : Nat) : Array Int := (Array.range 256).map (four f wd ht x y)
def smallB (f : Nat → Nat → Int) (wd ht x y : Nat) : Array Int := scaleN (fourA f wd ht x y) 64 (Array.replicate 64 0)

def iter {α : Type} (f : Nat → α → α) : Nat → α → α
  | 0, a => a
  | n + 1, a => f n (iter f n a)

def mcuGray (Q : Nat → Nat → Int) (f0 : Nat → Nat → Int) (wd ht x y : Nat) (a : Sc) : Sc := putBlk Q 0 0 (lumaB f0 wd ht x y) a
def mcuLuma (Q : Nat → Nat → Int) (f0 : Nat → Nat → Int) (wd ht x y : Nat) (k : Nat) (a : Sc) : Sc := putBlk Q 0 0 (lumaB f0 wd ht (x + k % 2 * 8) (y + k / 2 * 8)) a
def mcuColor (Q : Nat → Nat → Int) (f0 f1 f2 : Nat → Nat → Int) (wd ht x y : Nat) (a : Sc) : Sc :=
  putBlk Q 2 1 (smallB f2 wd ht x y) (putBlk Q 1 1 (smallB f1 wd ht x y) (iter (mcuLuma Q f0 wd ht x y) 4 a))
def rowOf (step wd : Nat) (g : Nat → Nat → Sc → Sc) (r : Nat) (a : Sc) : Sc := iter (fun c => g (step * c) (step * r)) ((wd + step - 1) / step) a
def scanOf (step wd ht : Nat) (g : Nat → Nat → Sc → Sc) (a : Sc) : Sc := iter (rowOf step wd g) ((ht + step - 1) / step) a

theorem fourA_size (f : Nat → Nat → Int) (wd ht x y : Nat) : (fourA f wd ht x y).size = 256 := by simp [fourA]
theorem fourA_get (f : Nat → Nat → Int) (wd ht x y : Nat) (j : Nat) (hj : j < 256) : (fourA f wd ht x y)[j]! = four f wd ht x y j := by
  rw [getElem!_pos _ j (by rw [fourA_size]; exact hj)]
  simp [fourA]

/-- Four fills make the 256 numbers. -/
theorem four_fills (f : Nat → Nat → Int) (wd ht x y : Nat) (D : Array Int) (hD : D.size = 256) :
    iter (fun k D => fillAt (64 * k) (blkG f wd ht (x + k % 2 * 8) (y + k / 2 * 8)) D 64) 4 D = fourA f wd ht x y := by
  refine array_ext64 _ _ 256 (by simp only [iter, fillAt_size]; exact hD) (fourA_size f wd ht x y) fun j hj => ?_
  rw [fourA_get f wd ht x y j hj]
  simp only [iter]
  rw [fillAt_get _ _ _ 64 j (by simp only [fillAt_size]; omega) (by simp only [fillAt_size]; omega)]
  unfold four
  by_cases h3 : 64 * 3 ≤ j ∧ j < 64 * 3 + 64
  · rw [if_pos h3, show j / 64 = 3 by omega, show j - 64 * 3 = j % 64 by omega]
  · rw [if_neg h3, fillAt_get _ _ _ 64 j (by simp only [fillAt_size]; omega) (by simp only [fillAt_size]; omega)]
    by_cases h2 : 64 * 2 ≤ j ∧ j < 64 * 2 + 64
    · rw [if_pos h2, show j / 64 = 2 by omega, show j - 64 * 2 = j % 64 by omega]
    · rw [if_neg h2, fillAt_get _ _ _ 64 j (by simp only [fillAt_size]; omega) (by simp only [fillAt_size]; omega)]
      by_cases h1 : 64 * 1 ≤ j ∧ j < 64 * 1 + 64
      · rw [if_pos h1, show j / 64 = 1 by omega, show j - 64 * 1 = j % 64 by omega]
      · rw [if_neg h1, fillAt_get _ _ _ 64 j (by omega) (by omega), if_pos (by omega), show j / 64 = 0 by omega, show j - 64 * 0 = j % 64 by omega]

theorem scaleAt_onto : ∀ u, u < 64 → ∃ t, t < 64 ∧ scaleAt t = u := by decide +kernel
theorem small_any (S D : Array Int) (hD : D.size = 64) : scaleN S 64 D = scaleN S 64 (Array.replicate 64 0) := by
  refine array_ext64 _ _ 64 (by rw [size_scaleN]; exact hD) (by rw [size_scaleN]; simp) fun u hu => ?_
  obtain ⟨t, ht, rfl⟩ := scaleAt_onto u hu
  rw [scaleN_get S D hD 64 (by omega) t ht, scaleN_get S _ (by simp) 64 (by omega) t ht]

/-! Bounds. -/
theorem lumaB_fits (f : Nat → Nat → Int) (hf : ∀ x y, 0 ≤ f x y ∧ f x y ≤ 255) (wd ht x y : Nat) : ∀ k, k < 64 → (0 : Int) ≤ (lumaB f wd ht x y)[k]! ∧ (lumaB f wd ht x y)[k]! ≤ (255 : Int) := by
  intro k hk
  unfold lumaB
  rw [blkA_get _ k hk]
  exact hf _ _
theorem smallB_size (f : Nat → Nat → Int) (wd ht x y : Nat) : (smallB f wd ht x y).size = 64 := by unfold smallB; rw [size_scaleN]; simp
theorem smallB_fits (f : Nat → Nat → Int) (hf : ∀ x y, 0 ≤ f x y ∧ f x y ≤ 255) (wd ht x y : Nat) : ∀ k, k < 64 → (0 : Int) ≤ (smallB f wd ht x y)[k]! ∧ (smallB f wd ht x y)[k]! ≤ (255 : Int) := by
  intro k hk
  obtain ⟨t, ht', rfl⟩ := scaleAt_onto k hk
  unfold smallB
  rw [scaleN_get _ _ (by simp) 64 (by omega) t ht']
  unfold scaleVal
  have hg : ∀ j, j < 256 → (0 : Int) ≤ (fourA f wd ht x y)[j]! ∧ (fourA f wd ht x y)[j]! ≤ (255 : Int) := fun j hj => by rw [fourA_get f wd ht x y j hj]; exact hf _ _
  have h0 := hg (scaleFrom t) (by unfold scaleFrom; omega)
  have h1 := hg (scaleFrom t + 1) (by unfold scaleFrom; omega)
  have h2 := hg (scaleFrom t + 8) (by unfold scaleFrom; omega)
  have h3 := hg (scaleFrom t + 9) (by unfold scaleFrom; omega)
  omega

/-- The last numbers lie where a block's first numbers lie; how much has been written. -/
structure Sc.Ok (a : Sc) (n : Nat) : Prop where
  l : (-1024 ≤ a.l0 ∧ a.l0 ≤ 1020) ∧ (-1024 ≤ a.l1 ∧ a.l1 ≤ 1020) ∧ (-1024 ≤ a.l2 ∧ a.l2 ≤ 1020)
  n : a.s.out.length ≤ n
set_option maxRecDepth 100000 in
theorem putBlk_ok {Q : Nat → Nat → Int} {c q : Nat} {d : Array Int} {a : Sc} {n : Nat} (h : a.Ok n) (hq : q < 2) (hQ : ∀ q, q < 2 → ∀ j, j < 64 → 1 ≤ Q q j ∧ Q q j ≤ 255) (hd : d.size = 64) (hb : ∀ k, k < 64 → (0 : Int) ≤ d[k]! ∧ d[k]! ≤ (255 : Int)) : (putBlk Q c q d a).Ok (n + 13000) := by
  obtain ⟨⟨h0, h1, h2⟩, hn⟩ := h
  have F := fun l hl => blockFits d (Q q) l hd hb (hQ q hq) hl
  have G := fun l (f : BlockFits d (Q q) l) => blockOut_len a.s q hq l (quantd (Q q) d) f.dc f.ac
  generalize hf : quantd (Q q) d = f at F G
  have K : ∀ l, -1024 ≤ l ∧ l ≤ 1020 → (-1024 ≤ f 0 ∧ f 0 ≤ 1020) ∧ (blockOut a.s q l f).out.length ≤ n + 13000 := fun l hl => ⟨(F l hl).2, by have := G l (F l hl).1; omega⟩
  clear F G
  unfold putBlk
  rw [hf]
  clear hf
  split
  · exact ⟨⟨(K _ h0).1, h1, h2⟩, (K _ h0).2⟩
  · exact ⟨⟨h0, (K _ h1).1, h2⟩, (K _ h1).2⟩
  · exact ⟨⟨h0, h1, (K _ h2).1⟩, (K _ h2).2⟩

end Go.Proofs.YtlibflbpajeeeaaDoor

namespace Go.Proofs.YtlibflbpajeeeaaDoor
open Go.RowKit Go.Sort

theorem Keeps.fills {Bs : List Nat} {v v' : Value} {w w' : World} (h : Keeps Bs v v' w w') : Fills (Bs ++ v.ownBlock.toList) w w' :=
  ⟨h.os, h.tape, h.output, h.size, fun k hk hb _ => h.block k hk (fun e => hb (by simp [e])) (fun e => hb (by simp [e])), fun _ h => by cases h⟩

/-- Blocks that are neither written nor the row's. -/
def Away (v : Value) (Bs : List Nat) (w : World) (ms : List Nat) : Prop := ∀ m ∈ ms, m < w.heap.size ∧ m ∉ Bs ∧ v.ownBlock ≠ some m
theorem Away.step {v v' : Value} {Bs : List Nat} {w w' : World} {ms : List Nat} (h : Away v Bs w ms) (k : Keeps Bs v v' w w') : Away v' Bs w' ms := fun m hm => by
  obtain ⟨h1, h2, h3⟩ := h m hm
  refine ⟨Nat.lt_of_lt_of_le h1 k.size, h2, fun e => ?_⟩
  rcases k.own m e with h | h
  · exact h3 h
  · omega
theorem Away.not {v : Value} {Bs : List Nat} {w : World} {ms : List Nat} (h : Away v Bs w ms) {m : Nat} (hm : m ∈ ms) : m ∉ Bs ++ v.ownBlock.toList := by
  obtain ⟨h1, h2, h3⟩ := h m hm
  intro hc
  rcases List.mem_append.1 hc with h | h
  · exact h2 h
  · cases ho : v.ownBlock with
    | none => rw [ho] at h; simp at h
    | some g => rw [ho] at h; simp at h; subst h; exact h3 ho

theorem Fix.more {w : World} {E Z : Nat} {v : Value} {Q : Nat → Nat → Int} (h : Fix w E Z v [] Q) (Bs : List Nat) (hB : ∀ b ∈ Bs, w.heap.size ≤ b) : Fix w E Z v Bs Q := by
  obtain ⟨g1, g2, _, g4⟩ := h.gE
  refine ⟨h.qu, ⟨fun t ht => ?_⟩, h.zig, h.bc, ⟨g1, g2, fun b hb => by have := hB b hb; omega, g4⟩, h.gv⟩
  obtain ⟨b, cap, hc, h1, h2, _, h4, h5, h6⟩ := h.lut.l t ht
  exact ⟨b, cap, hc, h1, h2, fun hb => by have := hB b hb; omega, h4, h5, h6⟩

/-- The encoder where some other blocks have turned. -/
theorem EncAt.fills {w w' : World} {E Z : Nat} {v : Value} {s : St} {Ts : List Nat} (h : EncAt w E Z v s) (ho : Fills Ts w w') (h1 : E ∉ Ts) (h2 : Z ∉ Ts) (h3 : ∀ g, v.ownBlock = some g → g ∉ Ts) : EncAt w' E Z v s := by
  have hc : ∀ j, w'.cell? ⟨E, j, none⟩ = w.cell? ⟨E, j, none⟩ := fun j => ho.at (x := ⟨E, j, none⟩) h.ltE h1
  have hno : ∀ g, undef.ownBlock ≠ some g := fun g e => by cases e
  have hz : w'.heap[Z]? = w.heap[Z]? := ho.block Z h.ltZ h2 (hno _)
  refine ⟨(hc 0).trans h.w0, (hc 1).trans h.er, fun j hj => ?_, (hc 18).trans h.bi, (hc 19).trans h.nb, fun j hj => (ho.frozen (x := ⟨E, j, none⟩) h.ltE h1 (hno _)).trans (h.fr j hj), ⟨?_, ?_, ?_, h.z.ne⟩, h.ok, h.ne, h.vE⟩
  · obtain ⟨x, hx⟩ := h.bu j hj; exact ⟨x, (hc _).trans hx⟩
  · exact (World.cell?_of_block (a := ⟨Z, 0, none⟩) hz).trans h.z.zc
  · exact (World.frozen?_of_block (a := ⟨Z, 0, none⟩) hz).trans h.z.zf
  · exact h.z.row.same fun g hg => ho.block g (h.z.row.lt hg) (h3 g hg) (hno _)
theorem Step2.ofFills {E Z : Nat} {Bs : List Nat} {v : Value} {w w' : World} (ho : Fills Bs w w') (hE : E ∉ Bs) (hl : E < w.heap.size) : Step2 E Z Bs v v w w' :=
  ⟨(ho.to v).wider (by intro b hb; simp [hb]), fun j _ => ho.at (x := ⟨E, j, none⟩) hl hE, fun j => ho.frozen (x := ⟨E, j, none⟩) hl hE (by intro e; cases e)⟩

/-- What the loops of writeSOS hold: the encoder, and block B to be filled again. -/
structure SosRel (W1 : World) (E Z B : Nat) (Bs : List Nat) (v0 : Value) (s : St) (v : Value) (wr : World) : Prop where
  e : EncAt wr E Z v s
  k : Step2 E Z Bs v0 v W1 wr
  h : ∃ d : Array Int, d.size = 64 ∧ Holds i32v wr B 0 d
  o : ∀ b ∈ Bs, v.ownBlock ≠ some b ∧ b < wr.heap.size

/-- Behind what has filled blocks of the list: as writeBlock asks it. -/
theorem SosRel.pre {W1 wr w3 : World} {E Z B : Nat} {Bs : List Nat} {v0 v : Value} {s : St} {Q : Nat → Nat → Int} (h : SosRel W1 E Z B Bs v0 s v wr) (hk : Fills Bs wr w3) (hE : E ∉ Bs) (hZ : Z ∉ Bs) (hf : Fix W1 E Z v0 Bs Q) :
    EncAt w3 E Z v s ∧ Step2 E Z Bs v0 v W1 w3 ∧ Fix w3 E Z v Bs Q := by
  have h1 := h.e.fills hk hE hZ (fun g hg hm => (h.o g hm).1 hg)
  have h2 := h.k.trans (Step2.ofFills (Z := Z) (v := v) hk hE h.e.ltE)
  exact ⟨h1, h2, hf.step h2⟩
theorem SosRel.post {W1 wr w3 w4 : World} {E Z B : Nat} {Bs : List Nat} {v0 v v' : Value} {s s' : St} {d : Array Int} (h : SosRel W1 E Z B Bs v0 s v wr) (hk : Fills Bs wr w3) (h2 : Step2 E Z Bs v0 v W1 w3)
    (he : EncAt w4 E Z v' s') (hk4 : Step2 E Z Bs v v' w3 w4) (hd : d.size = 64) (hh : Holds i32v w4 B 0 d) : SosRel W1 E Z B Bs v0 s' v' w4 := by
  refine ⟨he, h2.trans hk4, ⟨d, hd, hh⟩, fun b hb => ?_⟩
  obtain ⟨h3, h4⟩ := h.o b hb
  have h5 := hk.size
  have h6 := hk4.k.size
  refine ⟨fun e => ?_, by omega⟩
  rcases hk4.k.own b e with h7 | h7
  · exact h3 h7
  · omega

/-! How much is written. -/
theorem Sc.Ok.mono {a : Sc} {n m : Nat} (h : a.Ok n) (hm : n ≤ m) : a.Ok m := ⟨h.l, Nat.le_trans h.n hm⟩
theorem iter_ok (g : Nat → Sc → Sc) (K : Nat) (hg : ∀ c a n, a.Ok n → (g c a).Ok (n + K)) (a : Sc) (n : Nat) (h : a.Ok n) : ∀ c, (iter g c a).Ok (n + K * c) := by
  intro c
  induction c with
  | zero => exact h
  | succ c ih => exact (hg c _ _ ih).mono (by rw [Nat.mul_succ]; omega)

theorem lit_cells (w : World) (cs : List Value) (t : TypeId) : ∀ j u, cs[j]? = some u → (w.alloc (.cells cs.toArray t)).cell? ((⟨w.heap.size, 0, none⟩ : Addr).add j) = some u := by
  intro j u h
  rw [Addr.add_lit, Nat.zero_add, cell_of_row _ _ _ _ t (0, 0) (heap_alloc_new _ _)]
  simpa using h

/-- Which kind of picture: the three type assertions. -/
theorem ta_same (t : TypeId) (ht : t = 90 ∨ t = 94 ∨ t = 98) (a : Addr) (w : World) : (Instr.typeAssert (.iface t (.pointer (some a))) 48 t true).run Tryd.prog w = .ok (.tuple #[.pointer (some a), .bool true]) w := by
  rcases ht with rfl | rfl | rfl <;> kernel_rfl
theorem ta_other (t u : TypeId) (ht : t = 90 ∨ t = 94 ∨ t = 98) (hu : u = 90 ∨ u = 94 ∨ u = 98) (hn : t ≠ u) (a : Addr) (w : World) : (Instr.typeAssert (.iface t (.pointer (some a))) 48 u true).run Tryd.prog w = .ok (.tuple #[.pointer none, .bool false]) w := by
  rcases ht with rfl | rfl | rfl <;> rcases hu with rfl | rfl | rfl <;> first | exact absurd rfl hn | kernel_rfl

def sosY : List Int := [0xff, 0xda, 0x00, 0x08, 0x01, 0x01, 0x00, 0x00, 0x3f, 0x00]
def sosC : List Int := [0xff, 0xda, 0x00, 0x0c, 0x03, 0x01, 0x00, 0x02, 0x11, 0x03, 0x11, 0x00, 0x3f, 0x00]

def GrayMem (w : World) (E Z : Nat) (v : Value) (M pb wd ht : Nat) (L : List Int) : Prop := GrayAt w M pb wd ht L ∧ Away v [E, Z] w [M, pb]

def z64L : Array Value := #[.int .i32 0, .int .i32 0, .int .i32 0, .int .i32 0, .int .i32 0, .int .i32 0, .int .i32 0, .int .i32 0, .int .i32 0, .int .i32 0, .int .i32 0, .int .i32 0, .int .i32 0, .int .i32 0, .int .i32 0, .int .i32 0, .int .i32 0, .int .i32 0, .int .i32 0, .int .i32 0, .int .i32 0, .int .i32 0, .int .i32 0, .int .i32 0, .int .i32 0, .int .i32 0, .int .i32 0, .int .i32 0, .int .i32 0, .int .i32 0, .int .i32 0, .int .i32 0, .int .i32 0, .int .i32 0, .int .i32 0, .int .i32 0, .int .i32 0, .int .i32 0, .int .i32 0, .int .i32 0, .int .i32 0, .int .i32 0, .int .i32 0, .int .i32 0, .int .i32 0, .int .i32 0, .int .i32 0, .int .i32 0, .int .i32 0, .int .i32 0, .int .i32 0, .int .i32 0, .int .i32 0, .int .i32 0, .int .i32 0, .int .i32 0, .int .i32 0, .int .i32 0, .int .i32 0, .int .i32 0, .int .i32 0, .int .i32 0, .int .i32 0, .int .i32 0]
theorem z64_lit : z64L = (Array.replicate 64 (0 : Int)).map i32v := by kernel_rfl
theorem zero144 : ∀ w, (zeroValue 144).run Tryd.prog w = .ok (.agg (Array.replicate 256 (.int .i32 0))) w :=
  (zero_of_info (P := Tryd.prog) (t := 144) (v := .agg (Array.replicate 256 (.int .i32 0))) (n := 256) (by kernel_rfl)).1
theorem z256_map : Array.replicate 256 (Value.int .i32 0) = (Array.replicate 256 (0 : Int)).map i32v := by simp [i32v]
theorem holds_of_block {w : World} {b : Nat} {S : Array Int} {t : TypeId} (h : w.heap[b]? = some (.cells (S.map i32v) t (0, 0))) : Holds i32v w b 0 S := by
  intro j hj
  constructor
  · rw [cell_of_row _ _ _ _ t (0, 0) h, Nat.zero_add]
    exact getElem?_map_i32v S j hj
  · exact frozen_of_row _ _ _ _ t h

/-- The world at the head of writeSOS' loops: the block to fill, two of four blocks, a rectangle and its copy. -/
def sosW (w1 : World) (zs : Array Value) (wd ht : Nat) : World :=
  ((((w1.alloc (.cells z64L 126)).alloc (.cells zs 144)).alloc (.cells zs 144)).alloc (.cells #[.int .i64 0, .int .i64 0, .int .i64 wd, .int .i64 ht] 88)).alloc (.cells #[.int .i64 0, .int .i64 0, .int .i64 wd, .int .i64 ht] 88)
theorem sosW_fills (w1 : World) (zs : Array Value) (wd ht : Nat) : Fills [] w1 (sosW w1 zs wd ht) := ((((Keeps.alloc _ _ _ _).trans (Keeps.alloc _ _ _ _)).trans (Keeps.alloc _ _ _ _)).trans (Keeps.alloc _ _ _ _)).trans (Keeps.alloc _ _ _ _)
theorem sosW_size (w1 : World) (zs : Array Value) (wd ht : Nat) : (sosW w1 zs wd ht).heap.size = w1.heap.size + 5 := by simp [sosW]
theorem sosW_old (W : World) (j : Nat) (o : Obj) (h : W.heap[j]? = some o) (A : Obj) : (W.alloc A).heap[j]? = some o := by
  rw [_root_.Go.heap_alloc_old _ _ ?_]
  · exact h
  · rcases Nat.lt_or_ge j W.heap.size with h1 | h1
    · exact h1
    · rw [Array.getElem?_eq_none h1] at h; cases h
theorem sosW_b (w1 : World) (zs : Array Value) (wd ht : Nat) : (sosW w1 zs wd ht).heap[w1.heap.size]? = some (.cells z64L 126) ∧ (sosW w1 zs wd ht).heap[w1.heap.size + 1]? = some (.cells zs 144) ∧
    (sosW w1 zs wd ht).heap[w1.heap.size + 2]? = some (.cells zs 144) ∧ (sosW w1 zs wd ht).heap[w1.heap.size + 4]? = some (.cells #[.int .i64 0, .int .i64 0, .int .i64 wd, .int .i64 ht] 88) := by
  have old : ∀ (W : World) (j : Nat) (o : Obj), W.heap[j]? = some o → ∀ A, (W.alloc A).heap[j]? = some o := fun W j o h A => sosW_old W j o h A
  have new : ∀ (W : World) (o : Obj) (n : Nat), W.heap.size = n → (W.alloc o).heap[n]? = some o := fun W o n h => by subst h; exact heap_alloc_new W o
  refine ⟨?_, ?_, ?_, ?_⟩
  · exact old _ _ _ (old _ _ _ (old _ _ _ (old _ _ _ (new _ _ _ rfl) _) _) _) _
  · exact old _ _ _ (old _ _ _ (old _ _ _ (new _ _ _ (by simp)) _) _) _
  · exact old _ _ _ (old _ _ _ (new _ _ _ (by simp)) _) _
  · exact new _ _ _ (by simp)

theorem past4 {w1 : World} {M j : Nat} {x : Value} (h : w1.cell? ⟨M, j, none⟩ = some x) : ∀ A B C D, ((((w1.alloc A).alloc B).alloc C).alloc D).cell? ⟨M, j, none⟩ = some x := by
  intro A B C D
  have hM : M < w1.heap.size := World.block_lt_of_cell? w1 _ h
  rw [World.cell?_alloc_past _ _ _ (by show M < _; simp; omega), World.cell?_alloc_past _ _ _ (by show M < _; simp; omega), World.cell?_alloc_past _ _ _ (by show M < _; simp; omega), World.cell?_alloc_past _ _ _ hM]
  exact h

theorem putBlk0 (Q : Nat → Nat → Int) (q : Nat) (d : Array Int) (a : Sc) : putBlk Q 0 q d a = ⟨blockOut a.s q a.l0 (quantd (Q q) d), quantd (Q q) d 0, a.l1, a.l2⟩ := rfl
theorem putBlk0_l0 (Q : Nat → Nat → Int) (q : Nat) (d : Array Int) (a : Sc) : (putBlk Q 0 q d a).l0 = quantd (Q q) d 0 := by rw [putBlk0]
theorem putBlk0_s (Q : Nat → Nat → Int) (q : Nat) (d : Array Int) (a : Sc) : (putBlk Q 0 q d a).s = blockOut a.s q a.l0 (quantd (Q q) d) := by rw [putBlk0]
theorem mcuGray_l0 (Q : Nat → Nat → Int) (f0 : Nat → Nat → Int) (wd ht x y : Nat) (a : Sc) (d : Array Int) (hd : d = lumaB f0 wd ht x y) : (mcuGray Q f0 wd ht x y a).l0 = quantd (Q 0) d 0 := by
  unfold mcuGray
  rw [← hd]
  exact putBlk0_l0 Q 0 d a
theorem mcuGray_s (Q : Nat → Nat → Int) (f0 : Nat → Nat → Int) (wd ht x y : Nat) (a : Sc) (d : Array Int) (hd : d = lumaB f0 wd ht x y) : (mcuGray Q f0 wd ht x y a).s = blockOut a.s 0 a.l0 (quantd (Q 0) d) := by
  unfold mcuGray
  rw [← hd]
  exact putBlk0_s Q 0 d a

/-- Blocks that were laid meanwhile do not count. -/
theorem EncStep.then2 {E Z : Nat} {Bs : List Nat} {v v1 v' : Value} {w w1 w2 : World} (h : EncStep E Z v v1 w w1) (k : Step2 E Z Bs v1 v' w1 w2) (hb : ∀ b ∈ Bs, w.heap.size ≤ b) : EncStep E Z v v' w w2 := by
  have hs := h.k.size
  have hs2 := k.k.size
  refine ⟨⟨k.k.os.trans h.k.os, k.k.tape.trans h.k.tape, k.k.output.trans h.k.output, by omega, fun i hi hn hv => ?_, fun i hi => ?_⟩, fun j hj => (k.ec j hj).trans (h.ec j hj), fun j => (k.ef j).trans (h.ef j)⟩
  · refine (k.k.block i (by omega) ?_ ?_).trans (h.k.block i hi hn hv)
    · simp at hn ⊢
      exact ⟨hn.1, hn.2, fun hm => by have := hb i hm; omega⟩
    · intro e
      rcases h.k.own i e with h1 | h1
      · exact hv h1
      · omega
  · rcases k.k.own i hi with h1 | h1
    · exact h.k.own i h1
    · exact .inr (by omega)

set_option maxRecDepth 100000 in
set_option maxHeartbeats 2000000 in
theorem sosGray_any (w : World) (E Z M pb wd ht : Nat) (v : Value) (s : St) (Q : Nat → Nat → Int) (L : List Int) (h : EncAt w E Z v s) (hf : Fix w E Z v [] Q) (hQ : ∀ q, q < 2 → ∀ j, j < 64 → 1 ≤ Q q j ∧ Q q j ≤ 255) (hl : s.out.length ≤ 1000000)
    (hg : GrayMem w E Z v M pb wd ht L) :
    Calls Tryd.prog 46 #[.pointer (some ⟨E, 0, none⟩), .iface 90 (.pointer (some ⟨M, 0, none⟩))] w (Wrote E Z v w (pushBits (scanOf 8 wd ht (mcuGray Q (fun x y => L.getD (y * wd + x) 0) wd ht) ⟨s.put sosY, 0, 0, 0⟩).s 127 7)) := by
  have hz0 := zero144
  obtain ⟨zs, hzs⟩ : ∃ zs : Array Value, zs = Array.replicate 256 (.int .i32 0) := ⟨_, rfl⟩
  rw [← hzs] at hz0
  have hta := fun a w => ta_same 90 (.inl rfl) a w
  have HF := Lib.hid hf
  have H := Lib.hid h
  have HG := Lib.hid hg
  have HQ := Lib.hid hQ
  have HZS := Lib.hid hzs
  clear hf h hg hQ hzs
  go_enter Tryd.func46, Tryd.ntmps46
  go_wp2_with (go_at_call 55; go_in)
  refine (write_any _ E Z v s sosY ⟨w.heap.size, 0, none⟩ 10 10 (H.out.alloc _) (by omega) (by omega) (by omega) rfl (lit_cells w (sosY.map u8v) 5)).mono ?_
  rintro e w1 ⟨rfl, v1, h1, k1⟩
  have hk1 := (EncStep.alloc E Z v w (.cells (sosY.map u8v).toArray 5) H.out.ltE).trans k1
  have hf1 := HF.out.step (hk1.to [])
  have ha1 := HG.out.2.step hk1.k
  have hg1 := HG.out.1.keeps hk1.k.fills (HG.out.2.not (by simp)) (HG.out.2.not (by simp))
  have hr0 := past4 hg1.r0
  have hr1 := past4 hg1.r1
  have hr2 := past4 hg1.r2
  have hr3 := past4 hg1.r3
  have hM : M < w1.heap.size := World.block_lt_of_cell? w1 _ hg1.st
  obtain ⟨hd1, hd2, hd3, hd4⟩ := hg1.dim
  have H1 := Lib.hid h1
  have K1 := Lib.hid hk1
  have F1 := Lib.hid hf1
  have A1 := Lib.hid ha1
  have G1 := Lib.hid hg1
  clear h1 k1 hk1 hf1 ha1 hg1
  obtain ⟨B, hB⟩ : ∃ B, B = w1.heap.size := ⟨_, rfl⟩
  obtain ⟨W1, hW1⟩ : ∃ W1, W1 = sosW w1 zs wd ht := ⟨_, rfl⟩
  have hEB : E ∉ [B] := by have := H1.out.ltE; simp; omega
  have hZB : Z ∉ [B] := by have := H1.out.ltZ; simp; omega
  have hfl : Fills [] w1 W1 := by rw [hW1]; exact sosW_fills _ _ _ _
  have hsz : W1.heap.size = w1.heap.size + 5 := by rw [hW1]; exact sosW_size _ _ _ _
  obtain ⟨hbB, _, _, hbR⟩ := sosW_b w1 zs wd ht
  rw [← hW1] at hbB hbR
  have hown : ∀ g, v1.ownBlock = some g → g < w1.heap.size := fun g hg => H1.out.z.row.lt hg
  have hs1 : Step2 E Z [] v1 v1 w1 W1 := Step2.ofFills (by exact hfl) (by simp) H1.out.ltE
  have hF : Fix W1 E Z v1 [B] Q := ((F1.out.more [B] (by simp; omega))).step (hs1.wider (by simp))
  have hG : GrayAt W1 M pb wd ht L := G1.out.keeps hfl (by simp) (by simp)
  have hA : Away v1 [E, Z, B] W1 [M, pb, B + 4] := by
    intro m hm
    simp at hm
    rcases hm with rfl | rfl | rfl
    · obtain ⟨h1, h2, h3⟩ := A1.out m (by simp)
      exact ⟨by omega, by simp at h2 ⊢; omega, h3⟩
    · obtain ⟨h1, h2, h3⟩ := A1.out m (by simp)
      exact ⟨by omega, by simp at h2 ⊢; omega, h3⟩
    · refine ⟨by omega, ?_, fun e => by have := hown _ e; omega⟩
      have h1 := H1.out.ltE
      have h2 := H1.out.ltZ
      simp; omega
  have hbx : W1.cell? ⟨B + 4, 2, none⟩ = some (.int .i64 wd) ∧ W1.cell? ⟨B + 4, 3, none⟩ = some (.int .i64 ht) ∧ W1.cell? ⟨B + 4, 0, none⟩ = some (.int .i64 0) := by
    refine ⟨?_, ?_, ?_⟩ <;> (rw [hB, cell_of_row _ _ _ _ 88 (0, 0) hbR]; rfl)
  obtain ⟨a0, ha0⟩ : ∃ a0 : Sc, a0 = ⟨s.put sosY, 0, 0, 0⟩ := ⟨_, rfl⟩
  have hok0 : a0.Ok 1000010 := by rw [ha0]; exact ⟨⟨by simp, by simp, by simp⟩, by simp [St.put, sosY]; omega⟩
  have hrel0 : SosRel W1 E Z B [B] v1 a0.s v1 W1 := by
    rw [ha0]
    refine ⟨H1.out.fills hfl (by simp) (by simp) (fun _ _ => by simp), Step2.refl _ _ _ _ _, ⟨Array.replicate 64 0, by simp, ?_⟩, fun b hb => ?_⟩
    · refine holds_of_block (t := 126) ?_
      rw [hB, ← z64_lit]
      exact hbB
    · simp at hb
      subst hb
      exact ⟨fun e => by have := hown _ e; omega, by omega⟩
  obtain ⟨g, hg⟩ : ∃ g, g = mcuGray Q (fun x y => L.getD (y * wd + x) 0) wd ht := ⟨_, rfl⟩
  have hgok : ∀ x y a n, a.Ok n → (g x y a).Ok (n + 13000) := fun x y a n h => by
    rw [hg]
    exact putBlk_ok h (by omega) HQ.out (blkA_size _) (lumaB_fits _ (fun x y => hG.by8 _) _ _ _ _)
  have hrow : ∀ r, (iter (rowOf 8 wd g) r a0).Ok (1000010 + 169000 * r) := iter_ok (rowOf 8 wd g) 169000 (fun r a n h => (iter_ok _ 13000 (fun c a n h => hgok _ _ a n h) a n h _).mono (by omega)) a0 _ hok0
  have hcol : ∀ r c, (iter (fun c => g (8 * c) (8 * r)) c (iter (rowOf 8 wd g) r a0)).Ok (1000010 + 169000 * r + 13000 * c) := fun r c => iter_ok _ 13000 (fun c a n h => hgok _ _ a n h) _ _ (hrow r) c
  have HB := Lib.hid (And.intro hB (And.intro hW1 (And.intro hEB (And.intro hZB hsz))))
  have FX := Lib.hid hF
  have GX := Lib.hid hG
  have AX := Lib.hid hA
  have BX := Lib.hid hbx
  have REL0 := Lib.hid hrel0
  have OKC := Lib.hid hcol
  have OKR := Lib.hid hrow
  have GE := Lib.hid hg
  have HA0 := Lib.hid ha0
  have HFL := Lib.hid (And.intro hfl hs1)
  clear hB hW1 hEB hZB hfl hsz hbB hbR hown hs1 hF hG hA hbx hok0 hrel0 hgok hrow hcol hg ha0
  go_wp2_with (go_at_call 66; go_in)
  go_loopw [7, 12, 13, 14] (fun pv yv _ _ wr => ∃ r : Nat, r ≤ (ht + 7) / 8 ∧ yv = .int .i64 (8 * (r : Int)) ∧ ∃ v', pv = .int .i32 (iter (rowOf 8 wd g) r a0).l0 ∧ SosRel W1 E Z B [B] v1 (iter (rowOf 8 wd g) r a0).s v' wr) (fun _ yv _ _ _ => ht + 8 - (intOf yv).toNat)
  case atStart =>
    refine ⟨0, by omega, rfl, v1, by rw [HA0.out]; rfl, ?_⟩
    have := REL0.out
    rw [HB.out.2.1] at this ⊢
    exact this
  case round =>
    obtain ⟨r, hr, rfl, v2, rfl, hrl⟩ := hrel
    have HRL := Lib.hid hrl
    clear hr0 hr1 hr2 hr3
    have hA2 := AX.out.step hrl.k.k
    have hbk : ∀ j, wr.cell? ⟨B + 4, j, none⟩ = W1.cell? ⟨B + 4, j, none⟩ := fun j => by
      obtain ⟨h1, h2, h3⟩ := AX.out (B + 4) (by simp)
      exact hrl.k.k.cell (x := ⟨B + 4, j, none⟩) h1 h2 h3
    have hbw : wr.cell? ⟨w1.heap.size + 1 + 1 + 1 + 1, 2, none⟩ = some (.int .i64 wd) := by have := (hbk 2).trans BX.out.1; rw [HB.out.1] at this; exact this
    have hbh : wr.cell? ⟨w1.heap.size + 1 + 1 + 1 + 1, 3, none⟩ = some (.int .i64 ht) := by have := (hbk 3).trans BX.out.2.1; rw [HB.out.1] at this; exact this
    have hb0 : wr.cell? ⟨w1.heap.size + 1 + 1 + 1 + 1, 0, none⟩ = some (.int .i64 0) := by have := (hbk 0).trans BX.out.2.2; rw [HB.out.1] at this; exact this
    clear hrl hA2 hbk
    by_cases hry : 8 * r < ht
    · have hryb : decide (8 * (r : Int) < (ht : Int)) = true := by simp; omega
      obtain ⟨wo, rfl⟩ : ∃ wo : World, wo = wr := ⟨_, rfl⟩
      go_wp2_with fail
      go_loopw [7, 13, 14] (fun pv xv _ wr => ∃ c : Nat, c ≤ (wd + 7) / 8 ∧ xv = .int .i64 (8 * (c : Int)) ∧ ∃ v', pv = .int .i32 (iter (fun c => g (8 * c) (8 * r)) c (iter (rowOf 8 wd g) r a0)).l0 ∧ SosRel W1 E Z B [B] v1 (iter (fun c => g (8 * c) (8 * r)) c (iter (rowOf 8 wd g) r a0)).s v' wr) (fun _ xv _ _ => wd + 8 - (intOf xv).toNat)
      case atStart => exact ⟨0, by omega, rfl, v2, rfl, HRL.out⟩
      case round =>
        obtain ⟨c, hc, rfl, v3, rfl, hcl⟩ := hrel
        have HCL := Lib.hid hcl
        have hbk : ∀ j, wr.cell? ⟨B + 4, j, none⟩ = W1.cell? ⟨B + 4, j, none⟩ := fun j => by
          obtain ⟨h1, h2, h3⟩ := AX.out (B + 4) (by simp)
          exact hcl.k.k.cell (x := ⟨B + 4, j, none⟩) h1 h2 h3
        have hbw : wr.cell? ⟨w1.heap.size + 1 + 1 + 1 + 1, 2, none⟩ = some (.int .i64 wd) := by have := (hbk 2).trans BX.out.1; rw [HB.out.1] at this; exact this
        obtain ⟨ac, hac⟩ : ∃ ac, ac = iter (fun c => g (8 * c) (8 * r)) c (iter (rowOf 8 wd g) r a0) := ⟨_, rfl⟩
        have hokc := OKC.out r c
        have hnext : iter (fun c => g (8 * c) (8 * r)) (c + 1) (iter (rowOf 8 wd g) r a0) = g (8 * c) (8 * r) ac := by rw [hac]; rfl
        rw [← hac] at HCL hokc
        rw [← hac]
        have HAC := Lib.hid hac
        have HNX := Lib.hid hnext
        have HOK := Lib.hid hokc
        clear hcl hbk hac hnext hokc
        by_cases hcx : 8 * c < wd
        · have hcxb : decide (8 * (c : Int) < (wd : Int)) = true := by simp; omega
          obtain ⟨dB, hdB⟩ : ∃ dB, dB = lumaB (fun x y => L.getD (y * wd + x) 0) wd ht (8 * c) (8 * r) := ⟨_, rfl⟩
          have hdz : dB.size = 64 := by rw [hdB]; exact blkA_size _
          have hdf : ∀ k, k < 64 → (0 : Int) ≤ dB[k]! ∧ dB[k]! ≤ (255 : Int) := by rw [hdB]; exact lumaB_fits _ (fun x y => GX.out.by8 _) _ _ _ _
          have HDB := Lib.hid hdB
          have HDZ := Lib.hid hdz
          have HDF := Lib.hid hdf
          clear hdB hdz hdf
          have hgy : ∀ u : World, Fills [] wr u → Calls Tryd.prog 58 #[.pointer (some ⟨M, 0, none⟩), .agg #[.int .i64 (8 * (c : Int)), .int .i64 (8 * (r : Int))], .pointer (some ⟨w1.heap.size, 0, none⟩)] u fun e w' => e = .returned (.tuple #[]) ∧ Fills [B] wr w' ∧ Holds i32v w' B 0 dB := by
            intro u hu
            rw [HDB.out]
            rw [← HB.out.1]
            obtain ⟨d, hd, hh⟩ := HCL.out.h
            have hno : ∀ g, undef.ownBlock ≠ some g := fun g e => by cases e
            have hBl := (HCL.out.o B (by simp)).2
            have e1 : ((8 * c : Nat) : Int) = 8 * (c : Int) := by omega
            have e2 : ((8 * r : Nat) : Int) = 8 * (r : Int) := by omega
            have hA3 := AX.out.step HCL.out.k.k
            have hG3 := (GX.out.keeps HCL.out.k.k.fills (AX.out.not (by simp)) (AX.out.not (by simp))).keeps hu (by simp) (by simp)
            have n1 := (AX.out M (by simp)).2.1
            have n2 := (AX.out pb (by simp)).2.1
            simp at n1 n2
            have := grayToY_any u M pb wd ht L (8 * c) (8 * r) B d hG3 (by omega) hd (holds_same hh (hu.block B hBl (by simp) (hno _))) (fun e => n1.2.2 e.symm) (fun e => n2.2.2 e.symm)
            rw [e1, e2] at this
            refine this.mono ?_
            rintro e w' ⟨he, hf, hh'⟩
            rw [fillAt_blk _ _ hd] at hh'
            exact ⟨he, (hu.wider (by simp)).trans hf, hh'⟩
          have HGY := Lib.hid hgy
          clear hgy
          go_wp2_with (go_at_call 57; go_in)
          refine (HGY.out _ ((Keeps.alloc _ _ _ _).trans (Keeps.alloc _ _ _ _))).mono ?_
          rintro e w3 ⟨rfl, hf3, hh3⟩
          obtain ⟨he3, hk3, hF3⟩ := HCL.out.pre hf3 HB.out.2.2.1 HB.out.2.2.2.1 FX.out
          have hsm := (blockFits dB (Q 0) ac.l0 HDZ.out HDF.out (HQ.out 0 (by omega)) HOK.out.l.1).1
          have hn1 := HB.out.2.2.1
          have hn2 := HB.out.2.2.2.1
          simp at hn1 hn2
          have hwb : Calls Tryd.prog 59 #[.pointer (some ⟨E, 0, none⟩), .pointer (some ⟨w1.heap.size, 0, none⟩), .int .i64 0, .int .i32 ac.l0] w3 (BlockPost E Z B [B] v3 w3 ac.s 0 (Q 0) dB ac.l0) := by
            rw [← HB.out.1]
            exact writeBlock_any w3 E Z B v3 [B] Q ac.s 0 _ ac.l0 he3 hF3 (by have := HOK.out.n; omega) (by omega) (by simp) (fun e => hn1 e.symm) (fun e => hn2 e.symm) (HCL.out.o B (by simp)).1 hh3 hsm
          have HF3 := Lib.hid hf3
          have HK3 := Lib.hid hk3
          have HWB := Lib.hid hwb
          clear hf3 hk3 hwb he3 hF3 hsm hh3 hn1 hn2
          go_wp2_with fail
          refine HWB.out.mono ?_
          rintro e w4 ⟨rfl, v4, he4, hk4, hh4, _⟩
          have hpost := HCL.out.post HF3.out HK3.out he4 hk4 (fwd_size _ HDZ.out) hh4
          have HP := Lib.hid hpost
          clear he4 hk4 hh4 hpost
          go_wp2_with fail
          go_roundw
          case rel =>
            refine ⟨c + 1, by omega, by go_num, v4, ?_, ?_⟩
            · rw [HNX.out, GE.out, mcuGray_l0 _ _ _ _ _ _ _ dB HDB.out]
            · rw [HNX.out, GE.out, mcuGray_s _ _ _ _ _ _ _ dB HDB.out]; exact HP.out
          case measure => simp [intOf]; omega
        · obtain rfl : c = (wd + 7) / 8 := by omega
          go_wp2_with fail
          go_roundw
          case rel =>
            have hrw : iter (rowOf 8 wd g) (r + 1) a0 = ac := by rw [HAC.out]; rfl
            exact ⟨r + 1, by omega, by go_num, v3, by rw [hrw], by rw [hrw]; exact HCL.out⟩
          case measure => simp [intOf]; omega
    · obtain rfl : r = (ht + 7) / 8 := by omega
      have hlast := (OKR.out ((ht + 7) / 8)).n
      go_wp2_with fail
      refine (emit_any wr E Z v2 _ 127 7 HRL.out.e (by omega) (by omega) (by decide)).mono ?_
      rintro e w5 ⟨rfl, v5, h5, k5⟩
      have H5 := Lib.hid h5
      have K5 := Lib.hid k5
      clear h5 k5
      go_wp2_with fail
      go_end0
      refine ⟨rfl, v5, ?_, ?_⟩
      · have := H5.out
        rw [GE.out, HA0.out] at this
        exact this
      · have hs := K1.out.k.size
        exact ((K1.out.then2 (HFL.out.2) (by simp)).then2 HRL.out.k (by simp; have := HB.out.1; omega)).trans K5.out

end Go.Proofs.YtlibflbpajeeeaaDoor

namespace Go.Proofs.YtlibflbpajeeeaaDoor
open Go.RowKit Go.Sort

def arr32 (n : Nat) (f : Nat → Int) : Array Value := (Array.range n).map fun j => i32v (f j)
theorem arr32_size (n : Nat) (f : Nat → Int) : (arr32 n f).size = n := by simp [arr32]
theorem arr32_get (n : Nat) (f : Nat → Int) (j : Nat) (hj : j < n) : (arr32 n f)[j]? = some (.int .i32 (f j)) := by
  simp [arr32, hj, i32v]
theorem arr32_congr {n : Nat} {f g : Nat → Int} (h : ∀ j, j < n → f j = g j) : arr32 n f = arr32 n g := by
  apply Array.ext_getElem?
  intro j
  by_cases hj : j < n
  · rw [arr32_get n f j hj, arr32_get n g j hj, h j hj]
  · rw [Array.getElem?_eq_none (by rw [arr32_size]; omega), Array.getElem?_eq_none (by rw [arr32_size]; omega)]
theorem arr32_set (n : Nat) (f : Nat → Int) (j : Nat) (x : Int) : (arr32 n f).setIfInBounds j (.int .i32 x) = arr32 n (upd f j x) := by
  apply Array.ext_getElem?
  intro i
  by_cases hi : i < n
  · rw [Array.getElem?_setIfInBounds, arr32_get n f i hi, arr32_get n (upd f j x) i hi]
    unfold upd
    by_cases e : j = i
    · subst e
      rw [if_pos rfl, if_pos rfl, if_pos (by rw [arr32_size]; exact hi)]
    · rw [if_neg e, if_neg (fun h => e h.symm)]
  · rw [Array.getElem?_eq_none (by simp [arr32_size]; omega), Array.getElem?_eq_none (by rw [arr32_size]; omega)]
theorem arr32_one (n : Nat) (f : Nat → Int) : (arr32 n f).all (·.oneCell') = true := by
  rw [Array.all_eq_true_iff_forall_mem]
  intro v hv
  unfold arr32 at hv
  rw [Array.mem_map] at hv
  obtain ⟨x, _, rfl⟩ := hv
  rfl
theorem arr32_blk (g : Nat → Int) : (blkA g).map i32v = arr32 64 g := by
  unfold blkA arr32
  rw [Array.map_map]
  rfl
theorem arr32_arr (d : Array Int) (n : Nat) (hd : d.size = n) : d.map i32v = arr32 n (fun j => d[j]!) := by
  apply Array.ext_getElem?
  intro j
  by_cases hj : j < n
  · rw [arr32_get n _ j hj, getElem?_map_i32v d j (by omega)]
  · rw [Array.getElem?_eq_none (by rw [Array.size_map]; omega), Array.getElem?_eq_none (by rw [arr32_size]; omega)]

/-- Block B holds n numbers of 32 bits by f. -/
def Arr32 (w : World) (B : Nat) (t : TypeId) (n : Nat) (f : Nat → Int) : Prop := w.heap[B]? = some (.cells (arr32 n f) t (0, 0))
theorem Arr32.cell {w : World} {B : Nat} {t : TypeId} {n : Nat} {f : Nat → Int} (h : Arr32 w B t n f) (j : Nat) (hj : j < n) : w.cell? ⟨B, j, none⟩ = some (.int .i32 (f j)) := by
  rw [cell_of_row _ _ _ _ t (0, 0) h]; exact arr32_get n f j hj
theorem Arr32.free {w : World} {B : Nat} {t : TypeId} {n : Nat} {f : Nat → Int} (h : Arr32 w B t n f) (j : Nat) : w.frozen? ⟨B, j, none⟩ = false := frozen_of_row _ _ _ _ t h
theorem Arr32.set {w : World} {B : Nat} {t : TypeId} {n : Nat} {f : Nat → Int} (h : Arr32 w B t n f) (j : Nat) (x : Int) : Arr32 (w.setCell ⟨B, j, none⟩ (.int .i32 x)) B t n (upd f j x) := by
  unfold Arr32
  rw [← arr32_set]
  exact heap_setCell_same w B j (arr32 n f) t _ h
theorem Arr32.same {w w' : World} {B : Nat} {t : TypeId} {n : Nat} {f : Nat → Int} (h : Arr32 w B t n f) (hb : w'.heap[B]? = w.heap[B]?) : Arr32 w' B t n f := hb.trans h
theorem Arr32.congr {w : World} {B : Nat} {t : TypeId} {n : Nat} {f g : Nat → Int} (h : Arr32 w B t n f) (e : ∀ j, j < n → f j = g j) : Arr32 w B t n g := by
  unfold Arr32; rw [← arr32_congr e]; exact h
theorem Arr32.lt {w : World} {B : Nat} {t : TypeId} {n : Nat} {f : Nat → Int} (h : Arr32 w B t n f) : B < w.heap.size := by
  rcases Nat.lt_or_ge B w.heap.size with hlt | hge
  · exact hlt
  · unfold Arr32 at h
    rw [Array.getElem?_eq_none hge] at h
    cases h
theorem Arr32.alloc {w : World} {B : Nat} {t : TypeId} {n : Nat} {f : Nat → Int} (h : Arr32 w B t n f) (o : Obj) : Arr32 (w.alloc o) B t n f := h.same (_root_.Go.heap_alloc_old w o h.lt)

theorem info79 : (Tryd.prog.info? 79).map (·.size) = some 64 := by kernel_rfl
theorem zero79 : ∀ w, (zeroValue 79).run Tryd.prog w = .ok (.agg (arr32 64 fun _ => 0)) w :=
  (zero_of_info (P := Tryd.prog) (t := 79) (v := .agg (arr32 64 fun _ => 0)) (n := 64) (by kernel_rfl)).1

end Go.Proofs.YtlibflbpajeeeaaDoor

namespace Go.Proofs.YtlibflbpajeeeaaDoor
open Go.RowKit Go.Sort

/-- As SosRel, and two blocks of 256 numbers. -/
structure SosRel3 (W1 : World) (E Z B : Nat) (v0 : Value) (s : St) (v : Value) (wr : World) : Prop where
  r : SosRel W1 E Z B [B, B + 1, B + 2] v0 s v wr
  c1 : ∃ D : Array Int, D.size = 256 ∧ Holds i32v wr (B + 1) 0 D
  c2 : ∃ D : Array Int, D.size = 256 ∧ Holds i32v wr (B + 2) 0 D

/-- The 256 numbers of one part, of which k blocks are filled. -/
def fills (f : Nat → Nat → Int) (wd ht x y : Nat) (D : Array Int) (k : Nat) : Array Int := iter (fun k D => fillAt (64 * k) (blkG f wd ht (x + k % 2 * 8) (y + k / 2 * 8)) D 64) k D
theorem fills_size (f : Nat → Nat → Int) (wd ht x y : Nat) (D : Array Int) : ∀ k, (fills f wd ht x y D k).size = D.size := by
  intro k
  unfold fills
  induction k with
  | zero => rfl
  | succ k ih => simp only [iter, fillAt_size]; exact ih
theorem iter_succ {α : Type} (f : Nat → α → α) (n : Nat) (a : α) : iter f (n + 1) a = f n (iter f n a) := rfl
theorem fills_succ (f : Nat → Nat → Int) (wd ht x y : Nat) (D : Array Int) (k : Nat) : fills f wd ht x y D (k + 1) = fillAt (64 * k) (blkG f wd ht (x + k % 2 * 8) (y + k / 2 * 8)) (fills f wd ht x y D k) 64 := by
  unfold fills
  rw [iter_succ]
theorem fills_four (f : Nat → Nat → Int) (wd ht x y : Nat) (D : Array Int) (hD : D.size = 256) : fills f wd ht x y D 4 = fourA f wd ht x y := four_fills f wd ht x y D hD

/-- Four blocks as one, into block B. -/
theorem scale_fill (u : World) (B C : Nat) (d : Array Int) (f : Nat → Nat → Int) (hf : ∀ x y, 0 ≤ f x y ∧ f x y ≤ 255) (wd ht x y : Nat) (hd : d.size = 64) (hh : Holds i32v u B 0 d) (hC : Holds i32v u C 0 (fourA f wd ht x y)) (hne : C ≠ B) :
    Calls Tryd.prog 62 #[.pointer (some ⟨B, 0, none⟩), .pointer (some ⟨C, 0, none⟩)] u fun e w' => e = .returned (.tuple #[]) ∧ Fills [B] u w' ∧ Holds i32v w' B 0 (smallB f wd ht x y) := by
  refine (scale_any B C d (fourA f wd ht x y) u hd (fourA_size _ _ _ _ _) hh hC hne (fun j hj => ?_)).mono ?_
  · rw [fourA_get f wd ht x y j hj]
    have := hf (min (x + j / 64 % 2 * 8 + j % 64 % 8) (wd - 1)) (min (y + j / 64 / 2 * 8 + j % 64 / 8) (ht - 1))
    unfold four blkG
    omega
  · rintro e w' ⟨he, q, rfl⟩
    have ho := OnlyB.putRow u B (scaleN (fourA f wd ht x y) 64 d)
    refine ⟨he, ⟨ho.os, ho.tape, ho.output, Nat.le_of_eq ho.size.symm, fun k _ hk _ => ho.block k (by simpa using hk), fun _ h => .inl h⟩, ?_⟩
    have h1 := holds_put u B d (scaleN (fourA f wd ht x y) 64 d) hh (by rw [size_scaleN])
    rw [small_any _ _ hd] at h1
    unfold smallB
    rw [small_any _ _ hd]
    exact holds_same h1 rfl

/-- Behind k of the four luma blocks. -/
structure SosFour (W1 : World) (E Z B : Nat) (v0 : Value) (Q : Nat → Nat → Int) (f0 f1 f2 : Nat → Nat → Int) (wd ht x y : Nat) (a : Sc) (D1 D2 : Array Int) (k : Nat) (v : Value) (wr : World) : Prop where
  r : SosRel W1 E Z B [B, B + 1, B + 2] v0 (iter (mcuLuma Q f0 wd ht x y) k a).s v wr
  h1 : Holds i32v wr (B + 1) 0 (fills f1 wd ht x y D1 k)
  h2 : Holds i32v wr (B + 2) 0 (fills f2 wd ht x y D2 k)

theorem two_boxes (w : World) (a b : Int) : ((w.alloc (.cells #[.int .i64 a, .int .i64 b] 86)).alloc (.cells #[.int .i64 a, .int .i64 b] 86)).cell? ⟨w.heap.size + 1, 0, none⟩ = some (.int .i64 a) ∧
    ((w.alloc (.cells #[.int .i64 a, .int .i64 b] 86)).alloc (.cells #[.int .i64 a, .int .i64 b] 86)).cell? ⟨w.heap.size + 1, 1, none⟩ = some (.int .i64 b) ∧ Fills [] w ((w.alloc (.cells #[.int .i64 a, .int .i64 b] 86)).alloc (.cells #[.int .i64 a, .int .i64 b] 86)) := by
  have hb : ((w.alloc (.cells #[.int .i64 a, .int .i64 b] 86)).alloc (.cells #[.int .i64 a, .int .i64 b] 86)).heap[w.heap.size + 1]? = some (.cells #[.int .i64 a, .int .i64 b] 86) := heap_alloc2_new _ _ _
  refine ⟨?_, ?_, (Keeps.alloc _ _ _ _).trans (Keeps.alloc _ _ _ _)⟩
  · rw [cell_of_row _ _ _ _ 86 (0, 0) hb]; rfl
  · rw [cell_of_row _ _ _ _ 86 (0, 0) hb]; rfl

theorem mcuLuma_l0 (Q : Nat → Nat → Int) (f0 : Nat → Nat → Int) (wd ht x y k : Nat) (a : Sc) (d : Array Int) (hd : d = lumaB f0 wd ht (x + k % 2 * 8) (y + k / 2 * 8)) : (mcuLuma Q f0 wd ht x y k a).l0 = quantd (Q 0) d 0 := by
  unfold mcuLuma
  rw [← hd]
  exact putBlk0_l0 Q 0 d a
theorem mcuLuma_s (Q : Nat → Nat → Int) (f0 : Nat → Nat → Int) (wd ht x y k : Nat) (a : Sc) (d : Array Int) (hd : d = lumaB f0 wd ht (x + k % 2 * 8) (y + k / 2 * 8)) : (mcuLuma Q f0 wd ht x y k a).s = blockOut a.s 0 a.l0 (quantd (Q 0) d) := by
  unfold mcuLuma
  rw [← hd]
  exact putBlk0_s Q 0 d a
theorem putBlk0_l1 (Q : Nat → Nat → Int) (q : Nat) (d : Array Int) (a : Sc) : (putBlk Q 0 q d a).l1 = a.l1 ∧ (putBlk Q 0 q d a).l2 = a.l2 := by rw [putBlk0]; exact ⟨rfl, rfl⟩
theorem luma_last (Q : Nat → Nat → Int) (f0 : Nat → Nat → Int) (wd ht x y : Nat) (a : Sc) : ∀ k, (iter (mcuLuma Q f0 wd ht x y) k a).l1 = a.l1 ∧ (iter (mcuLuma Q f0 wd ht x y) k a).l2 = a.l2 := by
  intro k
  induction k with
  | zero => exact ⟨rfl, rfl⟩
  | succ k ih =>
    rw [iter_succ]
    unfold mcuLuma
    have h := putBlk0_l1 Q 0 (lumaB f0 wd ht (x + k % 2 * 8) (y + k / 2 * 8)) (iter (mcuLuma Q f0 wd ht x y) k a)
    unfold mcuLuma at h ih
    exact ⟨h.1.trans ih.1, h.2.trans ih.2⟩
theorem putBlk1 (Q : Nat → Nat → Int) (q : Nat) (d : Array Int) (a : Sc) : putBlk Q 1 q d a = ⟨blockOut a.s q a.l1 (quantd (Q q) d), a.l0, quantd (Q q) d 0, a.l2⟩ := rfl
theorem putBlk2 (Q : Nat → Nat → Int) (q : Nat) (d : Array Int) (a : Sc) : putBlk Q 2 q d a = ⟨blockOut a.s q a.l2 (quantd (Q q) d), a.l0, a.l1, quantd (Q q) d 0⟩ := rfl

theorem Fix.less {w : World} {E Z : Nat} {v : Value} {Bs Cs : List Nat} {Q : Nat → Nat → Int} (h : Fix w E Z v Bs Q) (hb : ∀ b ∈ Cs, b ∈ Bs) : Fix w E Z v Cs Q := by
  obtain ⟨g1, g2, g3, g4⟩ := h.gE
  refine ⟨h.qu, ⟨fun t ht => ?_⟩, h.zig, h.bc, ⟨g1, g2, fun b hb' => g3 b (hb b hb'), g4⟩, h.gv⟩
  obtain ⟨b, cap, hc, h1, h2, h3, h4, h5, h6⟩ := h.lut.l t ht
  exact ⟨b, cap, hc, h1, h2, fun hb' => h3 (hb b hb'), h4, h5, h6⟩

theorem and1 : ∀ k, k < 4 → bits BinOp.and IntKind.i64 ((k : Nat) : Int) 1 = ((k : Nat) : Int) % 2 := by decide +kernel
theorem and2 : ∀ k, k < 4 → bits BinOp.and IntKind.i64 ((k : Nat) : Int) 2 = ((k : Nat) : Int) / 2 * 2 := by decide +kernel

end Go.Proofs.YtlibflbpajeeeaaDoor
