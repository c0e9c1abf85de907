/- The contract of picture over one plane of gray. The contract of picture over one plane of RGBA. The contracts of small (ratio 0) and ratios. The contract of picture over three planes of luma and chroma, of one share. (Joined by wip/gen/merge.py.) -/
import Derived.Test.YtlibflbpajeeeaaDoorJZz
import Derived.Test.YtlibflbpajeeeaaDoorJInit
import Derived.Deep.RegionHeld3
import Derived.Deep.DeepCutAuto
import Derived.BigRegion
import Derived.Test.YtlibflbpajeeeaaDoorJImg
import Derived.IntWalk
namespace Go.Proofs.YtlibflbpajeeeaaDoor
open Go.RowKit

set_option maxRecDepth 100000 in
theorem rect_any (w : World) (wd ht : Nat) (h : wd ≤ 1000 ∧ ht ≤ 1000) : Calls Tryd.prog 33 #[.int .i64 0, .int .i64 0, .int .i64 wd, .int .i64 ht] w fun e w' => e = .returned (.agg #[.int .i64 0, .int .i64 0, .int .i64 wd, .int .i64 ht]) ∧ w' = w.alloc (.cells #[.int .i64 0, .int .i64 0, .int .i64 wd, .int .i64 ht] 88) := by
  obtain ⟨h1, h2⟩ := h
  have b1 : decide ((wd : Int) < 0) = false := by simp
  have b2 : decide ((ht : Int) < 0) = false := by simp
  go_enter Tryd.func33, Tryd.ntmps33
  go_wp2_with fail
  refine bodyPost_ret (v := .agg (rectC wd ht)) (results_cell_row rfl _ _ w.heap.size 88 (rectC wd ht) (0, 0) _ rfl (heap_alloc_new _ _) Tryd.underlying88 rfl (by kernel_rfl)) rfl ?_
  exact ⟨rfl, rfl⟩

/-- What the last statement of picture reads. -/
structure PicS (w : World) (A P pb n pc wd ht : Nat) (cp : Nat) (L : List Int) (w' : World) : Prop where
  p : w'.cell? ⟨A, 4, none⟩ = some (.slice (some ⟨P, 0, none⟩) 1 cp)
  s : w'.cell? ⟨A, 1, none⟩ = some (.int .i64 wd)
  b : w'.cell? ⟨P, 0, none⟩ = some (.slice (some ⟨pb, 0, none⟩) n pc)
  r0 : w'.cell? ⟨A + 1 + 1, 0, none⟩ = some (.int .i64 0)
  r1 : w'.cell? ⟨A + 1 + 1, 1, none⟩ = some (.int .i64 0)
  r2 : w'.cell? ⟨A + 1 + 1, 2, none⟩ = some (.int .i64 wd)
  r3 : w'.cell? ⟨A + 1 + 1, 3, none⟩ = some (.int .i64 ht)
  row : RowAt w' 5 (.slice (some ⟨pb, 0, none⟩) n pc) (L.map u8v)
  bw : Below w.heap.size w w'
theorem PicS.below {w w' w'' : World} {A P pb n pc wd ht cp : Nat} {L : List Int} (h : PicS w A P pb n pc wd ht cp L w') (hb : Below w'.heap.size w' w'') : PicS w A P pb n pc wd ht cp L w'' :=
  ⟨(hb.cell (World.block_lt_of_cell? w' _ h.p)).trans h.p, (hb.cell (World.block_lt_of_cell? w' _ h.s)).trans h.s, (hb.cell (World.block_lt_of_cell? w' _ h.b)).trans h.b, (hb.cell (World.block_lt_of_cell? w' _ h.r0)).trans h.r0, (hb.cell (World.block_lt_of_cell? w' _ h.r1)).trans h.r1,
    (hb.cell (World.block_lt_of_cell? w' _ h.r2)).trans h.r2, (hb.cell (World.block_lt_of_cell? w' _ h.r3)).trans h.r3, h.row.same fun g hg => hb.block g (h.row.lt hg), h.bw.trans (hb.mono h.bw.size)⟩
theorem PicS.start {w : World} {P pb n pc wd ht cp : Nat} {k rt : Int} {L : List Int} (hP : w.cell? ⟨P, 0, none⟩ = some (.slice (some ⟨pb, 0, none⟩) n pc)) (hr : RowAt w 5 (.slice (some ⟨pb, 0, none⟩) n pc) (L.map u8v)) :
    PicS w w.heap.size P pb n pc wd ht cp L (((w.alloc (.cells #[.int .i64 k, .int .i64 wd, .int .i64 ht, .int .i64 rt, .slice (some ⟨P, 0, none⟩) 1 cp] 30)).alloc (.cells #[.int .i64 0, .int .i64 0, .int .i64 wd, .int .i64 ht] 88)).alloc (.cells #[.int .i64 0, .int .i64 0, .int .i64 wd, .int .i64 ht] 88)) := by
  obtain ⟨w1, h1⟩ : ∃ w1, w1 = w.alloc (.cells #[.int .i64 k, .int .i64 wd, .int .i64 ht, .int .i64 rt, .slice (some ⟨P, 0, none⟩) 1 cp] 30) := ⟨_, rfl⟩
  have hA : w1.heap[w.heap.size]? = some (.cells #[.int .i64 k, .int .i64 wd, .int .i64 ht, .int .i64 rt, .slice (some ⟨P, 0, none⟩) 1 cp] 30 (0, 0)) := by rw [h1]; exact heap_alloc_new _ _
  have hs1 : w1.heap.size = w.heap.size + 1 := by rw [h1]; simp
  have a4 : w1.cell? ⟨w.heap.size, 4, none⟩ = some (.slice (some ⟨P, 0, none⟩) 1 cp) := by rw [cell_of_row _ _ _ _ 30 (0, 0) hA]; rfl
  have a1 : w1.cell? ⟨w.heap.size, 1, none⟩ = some (.int .i64 wd) := by rw [cell_of_row _ _ _ _ 30 (0, 0) hA]; rfl
  have hR : ((w1.alloc (.cells #[.int .i64 0, .int .i64 0, .int .i64 wd, .int .i64 ht] 88)).alloc (.cells #[.int .i64 0, .int .i64 0, .int .i64 wd, .int .i64 ht] 88)).heap[w.heap.size + 1 + 1]? = some (.cells #[.int .i64 0, .int .i64 0, .int .i64 wd, .int .i64 ht] 88 (0, 0)) := by
    have := heap_alloc_new (w1.alloc (.cells #[.int .i64 0, .int .i64 0, .int .i64 wd, .int .i64 ht] 88)) (.cells #[.int .i64 0, .int .i64 0, .int .i64 wd, .int .i64 ht] 88)
    rw [show (w1.alloc (.cells #[.int .i64 0, .int .i64 0, .int .i64 wd, .int .i64 ht] 88)).heap.size = w.heap.size + 1 + 1 by simp [hs1]] at this
    exact this
  have hP1 : w1.cell? ⟨P, 0, none⟩ = some (.slice (some ⟨pb, 0, none⟩) n pc) := by rw [h1]; exact past1 hP _
  have hr1 : RowAt w1 5 (.slice (some ⟨pb, 0, none⟩) n pc) (L.map u8v) := by rw [h1]; exact hr.alloc _
  have hb1 : Below w.heap.size w w1 := by rw [h1]; exact (Below.refl _ _).alloc (Nat.le_refl _) _
  rw [← h1]
  exact ⟨past1 (past1 a4 _) _, past1 (past1 a1 _) _, past1 (past1 hP1 _) _, by rw [cell_of_row _ _ _ _ 88 (0, 0) hR]; rfl, by rw [cell_of_row _ _ _ _ 88 (0, 0) hR]; rfl, by rw [cell_of_row _ _ _ _ 88 (0, 0) hR]; rfl, by rw [cell_of_row _ _ _ _ 88 (0, 0) hR]; rfl,
    (hr1.alloc _).alloc _, (hb1.alloc hb1.size _).alloc (by simp; omega) _⟩

/-- The same, cell by cell, for the region's draw. -/
def PicC (w : World) (A P pb n pc wd ht cp : Nat) (L : List Int) (w' : World) : Prop := True ∧ PicS w A P pb n pc wd ht cp L w'
theorem PicS.full {w w' : World} {A P pb n pc wd ht cp : Nat} {L : List Int} (h : PicS w A P pb n pc wd ht cp L w') :
    (w'.cell? ⟨A, 4, none⟩ = some (.slice (some ⟨P, 0, none⟩) 1 cp) ∧ w'.cell? ⟨A, 1, none⟩ = some (.int .i64 wd) ∧ w'.cell? ⟨P, 0, none⟩ = some (.slice (some ⟨pb, 0, none⟩) n pc) ∧
      w'.cell? ⟨A + 1 + 1, 0, none⟩ = some (.int .i64 0) ∧ w'.cell? ⟨A + 1 + 1, 1, none⟩ = some (.int .i64 0) ∧ w'.cell? ⟨A + 1 + 1, 2, none⟩ = some (.int .i64 wd) ∧ w'.cell? ⟨A + 1 + 1, 3, none⟩ = some (.int .i64 ht)) ∧ PicS w A P pb n pc wd ht cp L w' := ⟨⟨h.p, h.s, h.b, h.r0, h.r1, h.r2, h.r3⟩, h⟩

set_option maxRecDepth 100000 in
set_option maxHeartbeats 2000000 in
theorem picGray_any (w : World) (P cp pb pc wd ht : Nat) (rt : Int) (L : List Int) (hP : w.cell? ⟨P, 0, none⟩ = some (.slice (some ⟨pb, 0, none⟩) (wd * ht) pc)) (hrow : RowAt w 5 (.slice (some ⟨pb, 0, none⟩) (wd * ht) pc) (L.map u8v)) (hL : L.length = wd * ht)
    (h8 : ∀ k, 0 ≤ L.getD k 0 ∧ L.getD k 0 ≤ 255) (hd : 1 ≤ wd ∧ wd ≤ 100 ∧ 1 ≤ ht ∧ ht ≤ 100) :
    Calls Tryd.prog 16 #[.agg #[.int .i64 1, .int .i64 wd, .int .i64 ht, .int .i64 rt, .slice (some ⟨P, 0, none⟩) 1 cp]] w fun e w' => ∃ M q, e = .returned (.iface 90 (.pointer (some ⟨M, 0, none⟩))) ∧ GrayAt w' M q wd ht L ∧ w.heap.size ≤ M ∧ w.heap.size ≤ q ∧ Below w.heap.size w w' := by
  obtain ⟨hd1, hd2, hd3, hd4⟩ := hd
  have hm0 : 0 < wd * ht := Nat.mul_pos hd1 hd3
  have hm1 : wd * ht ≤ 100 * 100 := Nat.mul_le_mul hd2 hd4
  obtain ⟨n, hn⟩ : ∃ n, n = wd * ht := ⟨_, rfl⟩
  rw [← hn] at hP hrow hL hm0 hm1
  have hmul : (wd : Int) * (ht : Int) = (n : Int) := by rw [hn]; push_cast; rfl
  have b1 : decide ((wd : Int) < 0) = false := by simp
  have b2 : decide (100 < (wd : Int)) = false := by simp; omega
  have b3 : decide ((ht : Int) < 0) = false := by simp
  have b4 : decide (100 < (ht : Int)) = false := by simp; omega
  have hP3 : ∀ A B C, (((w.alloc A).alloc B).alloc C).cell? ⟨P, 0, none⟩ = some (.slice (some ⟨pb, 0, none⟩) n pc) := fun A B C => past1 (past1 (past1 hP A) B) C
  have HP := Lib.hid hP
  have HR := Lib.hid hrow
  have HL := Lib.hid hL
  have H8 := Lib.hid h8
  have HN := Lib.hid hn
  have HPL := Lib.hid (World.block_lt_of_cell? w _ hP)
  clear hP hrow hL h8 hn
  go_enter Tryd.func16, Tryd.ntmps16
  go_upto_region 6 with (go_at_call 33; refine (rect_any _ wd ht (by omega)).mono ?_)
  have hS := PicS.start (k := 1) (rt := rt) (wd := wd) (ht := ht) (cp := cp) HP.out HR.out
  clear hP3
  generalize ((w.alloc _).alloc _).alloc _ = W3 at hS ⊢
  obtain ⟨A, hA⟩ : ∃ A, A = w.heap.size := ⟨_, rfl⟩
  rw [← hA] at hS ⊢
  have HA := Lib.hid hA
  clear hA
  go_region_held3 (fun w' => (w'.cell? ⟨A, 4, none⟩ = some (.slice (some ⟨P, 0, none⟩) 1 cp) ∧ w'.cell? ⟨A, 1, none⟩ = some (.int .i64 wd) ∧ w'.cell? ⟨P, 0, none⟩ = some (.slice (some ⟨pb, 0, none⟩) n pc) ∧
      w'.cell? ⟨A + 1 + 1, 0, none⟩ = some (.int .i64 0) ∧ w'.cell? ⟨A + 1 + 1, 1, none⟩ = some (.int .i64 0) ∧ w'.cell? ⟨A + 1 + 1, 2, none⟩ = some (.int .i64 wd) ∧ w'.cell? ⟨A + 1 + 1, 3, none⟩ = some (.int .i64 ht)) ∧ PicS w A P pb n pc wd ht cp L w')
    (first
      | exact PicS.full (PicS.below hS (Below.drew (Below.refl _ _)))
      | exact PicS.full (PicS.below (And.right (by assumption)) (by assumption))
      | exact PicS.full (PicS.below (And.right (by assumption)) (Below.alloc (Below.refl _ _) (Nat.le_refl _) _)))
    (first
      | (go_at_call 34; refine (clone_any _ pb n pc L (PicS.row (And.right (by assumption))) HL.out hm0 (by omega)).mono ?_; rintro e w' ⟨g, cap, rfl, hr, hg1, hg2, hb⟩))
  have HX := Lib.hid (And.intro hr (And.intro hg1 (And.intro hg2 hb)))
  rename_i hheld
  clear hr hg1 hg2 hb hheld
  go_wp2_with fail
  go_ret
  obtain ⟨hr, hg1, hg2, hb⟩ := HX.out
  have hg1' : W3.heap.size ≤ g := hg1
  have hsz := hS.bw.size
  have hbw := hS.bw.trans ((Below.drew (Below.refl W3.heap.size W3)).trans hb |>.mono hsz)
  have hM : ((w'.alloc (.cells #[.slice (some ⟨g, 0, none⟩) L.length cap, .int .i64 wd, .int .i64 0, .int .i64 0, .int .i64 wd, .int .i64 ht] 93))).heap[w'.heap.size]? = some (.cells #[.slice (some ⟨g, 0, none⟩) L.length cap, .int .i64 wd, .int .i64 0, .int .i64 0, .int .i64 wd, .int .i64 ht] 93 (0, 0)) := heap_alloc_new _ _
  have hLn := HL.out
  have hn := HN.out
  refine ⟨w'.heap.size, g, rfl, ⟨⟨cap, ?_⟩, ?_, ?_, ?_, ?_, ?_, fun k hk => ?_, H8.out, ⟨hd1, hd2, hd3, hd4⟩, by simp; omega⟩, hbw.size, by omega, hbw.alloc hbw.size _⟩
  · rw [cell_of_row _ _ _ _ 93 (0, 0) hM, ← hn, ← hLn]; rfl
  · rw [cell_of_row _ _ _ _ 93 (0, 0) hM]; rfl
  · rw [cell_of_row _ _ _ _ 93 (0, 0) hM]; rfl
  · rw [cell_of_row _ _ _ _ 93 (0, 0) hM]; rfl
  · rw [cell_of_row _ _ _ _ 93 (0, 0) hM]; rfl
  · rw [cell_of_row _ _ _ _ 93 (0, 0) hM]; rfl
  · rw [(hr.alloc _).cell rfl k (by rw [List.length_map]; omega), List.getElem_map, List.getD_eq_getElem?_getD, List.getElem?_eq_getElem (by omega)]
    rfl
end Go.Proofs.YtlibflbpajeeeaaDoor

namespace Go.Proofs.YtlibflbpajeeeaaDoor
open Go.RowKit

theorem RowAt.cap {w : World} {e : TypeId} {a : Option Addr} {n cap : Nat} {xs : List Value} (h : RowAt w e (.slice a n cap) xs) : n ≤ cap := by
  rcases h.2 with ⟨h1, _⟩ | ⟨g, c, cur, h1, _, _, h2, _⟩
  · injection h1 with _ h3 h4; omega
  · injection h1 with _ h3 h4; omega

set_option maxRecDepth 100000 in
set_option maxHeartbeats 2000000 in
theorem picRgb_any (w : World) (P cp pb pc wd ht : Nat) (rt : Int) (L : List Int) (hP : w.cell? ⟨P, 0, none⟩ = some (.slice (some ⟨pb, 0, none⟩) (4 * (wd * ht)) pc)) (hrow : RowAt w 5 (.slice (some ⟨pb, 0, none⟩) (4 * (wd * ht)) pc) (L.map u8v)) (hL : L.length = 4 * (wd * ht))
    (h8 : ∀ k, 0 ≤ L.getD k 0 ∧ L.getD k 0 ≤ 255) (hd : 1 ≤ wd ∧ wd ≤ 100 ∧ 1 ≤ ht ∧ ht ≤ 100) :
    Calls Tryd.prog 16 #[.agg #[.int .i64 3, .int .i64 wd, .int .i64 ht, .int .i64 rt, .slice (some ⟨P, 0, none⟩) 1 cp]] w fun e w' => ∃ M q, e = .returned (.iface 94 (.pointer (some ⟨M, 0, none⟩))) ∧ RgbAt w' M q wd ht L ∧ w.heap.size ≤ M ∧ w.heap.size ≤ q ∧ Below w.heap.size w w' := by
  obtain ⟨hd1, hd2, hd3, hd4⟩ := hd
  have hmm : 0 < wd * ht := Nat.mul_pos hd1 hd3
  have hm2 : wd * ht ≤ 100 * 100 := Nat.mul_le_mul hd2 hd4
  have hm0 : 0 < 4 * (wd * ht) := by omega
  have hm1 : 4 * (wd * ht) ≤ 40000 := by omega
  obtain ⟨n, hn⟩ : ∃ n, n = 4 * (wd * ht) := ⟨_, rfl⟩
  rw [← hn] at hP hrow hL hm0 hm1
  obtain ⟨pq, hpq⟩ : ∃ p, p = wd * ht := ⟨_, rfl⟩
  rw [← hpq] at hn hm2 hmm
  have hmul : (wd : Int) * (ht : Int) = (pq : Int) := by rw [hpq]; push_cast; rfl
  have hmul4 : 4 * (pq : Int) = (n : Int) := by rw [hn]; push_cast; rfl
  have HPQ := Lib.hid hpq
  clear hpq
  have hw4 : IntKind.i64.wrap (4 * (wd : Int)) = 4 * (wd : Int) := IntWalk.i64_in _ (by omega)
  have b1 : decide ((wd : Int) < 0) = false := by simp
  have b2 : decide (100 < (wd : Int)) = false := by simp; omega
  have b3 : decide ((ht : Int) < 0) = false := by simp
  have b4 : decide (100 < (ht : Int)) = false := by simp; omega
  have hP3 : ∀ A B C, (((w.alloc A).alloc B).alloc C).cell? ⟨P, 0, none⟩ = some (.slice (some ⟨pb, 0, none⟩) n pc) := fun A B C => past1 (past1 (past1 hP A) B) C
  have HP := Lib.hid hP
  have HR := Lib.hid hrow
  have HL := Lib.hid hL
  have H8 := Lib.hid h8
  have HN := Lib.hid hn
  have HPL := Lib.hid (World.block_lt_of_cell? w _ hP)
  clear hP hrow hL h8 hn
  go_enter Tryd.func16, Tryd.ntmps16
  go_upto_region 8 with (go_at_call 33; refine (rect_any _ wd ht (by omega)).mono ?_)
  have hS := PicS.start (k := 3) (rt := rt) (wd := wd) (ht := ht) (cp := cp) HP.out HR.out
  clear hP3
  generalize ((w.alloc _).alloc _).alloc _ = W3 at hS ⊢
  obtain ⟨A, hA⟩ : ∃ A, A = w.heap.size := ⟨_, rfl⟩
  rw [← hA] at hS ⊢
  have HA := Lib.hid hA
  clear hA
  go_region_held3 (fun w' => (w'.cell? ⟨A, 4, none⟩ = some (.slice (some ⟨P, 0, none⟩) 1 cp) ∧ w'.cell? ⟨A, 1, none⟩ = some (.int .i64 wd) ∧ w'.cell? ⟨P, 0, none⟩ = some (.slice (some ⟨pb, 0, none⟩) n pc) ∧
      w'.cell? ⟨A + 1 + 1, 0, none⟩ = some (.int .i64 0) ∧ w'.cell? ⟨A + 1 + 1, 1, none⟩ = some (.int .i64 0) ∧ w'.cell? ⟨A + 1 + 1, 2, none⟩ = some (.int .i64 wd) ∧ w'.cell? ⟨A + 1 + 1, 3, none⟩ = some (.int .i64 ht)) ∧ PicS w A P pb n pc wd ht cp L w')
    (first
      | exact PicS.full (PicS.below hS (Below.drew (Below.refl _ _)))
      | exact PicS.full (PicS.below (And.right (by assumption)) (by assumption))
      | exact PicS.full (PicS.below (And.right (by assumption)) (Below.alloc (Below.refl _ _) (Nat.le_refl _) _)))
    (first
      | (go_at_call 34; refine (clone_any _ pb n pc L (PicS.row (And.right (by assumption))) HL.out hm0 (by omega)).mono ?_; rintro e w' ⟨g, cap, rfl, hr, hg1, hg2, hb⟩))
  have HX := Lib.hid (And.intro hr (And.intro hg1 (And.intro hg2 hb)))
  rename_i hheld
  clear hr hg1 hg2 hb hheld
  go_wp2_with fail
  go_ret
  obtain ⟨hr, hg1, hg2, hb⟩ := HX.out
  have hg1' : W3.heap.size ≤ g := hg1
  have hsz := hS.bw.size
  have hbw := hS.bw.trans ((Below.drew (Below.refl W3.heap.size W3)).trans hb |>.mono hsz)
  have hM : ((w'.alloc (.cells #[.slice (some ⟨g, 0, none⟩) L.length cap, .int .i64 (4 * (wd : Int)), .int .i64 0, .int .i64 0, .int .i64 wd, .int .i64 ht] 95))).heap[w'.heap.size]? = some (.cells #[.slice (some ⟨g, 0, none⟩) L.length cap, .int .i64 (4 * (wd : Int)), .int .i64 0, .int .i64 0, .int .i64 wd, .int .i64 ht] 95 (0, 0)) := heap_alloc_new _ _
  have hLn := HL.out
  have hn := HN.out
  refine ⟨w'.heap.size, g, rfl, ⟨⟨cap, ?_, ?_⟩, ?_, ?_, ?_, ?_, ?_, fun k hk => ?_, H8.out, ⟨hd1, hd2, hd3, hd4⟩, by simp; omega⟩, hbw.size, by omega, hbw.alloc hbw.size _⟩
  · rw [← HPQ.out, ← hn, ← hLn]; exact hr.cap
  · rw [cell_of_row _ _ _ _ 95 (0, 0) hM, ← HPQ.out, ← hn, ← hLn]; rfl
  · rw [cell_of_row _ _ _ _ 95 (0, 0) hM]; rfl
  · rw [cell_of_row _ _ _ _ 95 (0, 0) hM]; rfl
  · rw [cell_of_row _ _ _ _ 95 (0, 0) hM]; rfl
  · rw [cell_of_row _ _ _ _ 95 (0, 0) hM]; rfl
  · rw [cell_of_row _ _ _ _ 95 (0, 0) hM]; rfl
  · rw [(hr.alloc _).cell rfl k (by rw [List.length_map]; omega), List.getElem_map, List.getD_eq_getElem?_getD, List.getElem?_eq_getElem (by omega)]
    rfl
end Go.Proofs.YtlibflbpajeeeaaDoor

namespace Go.Proofs.YtlibflbpajeeeaaDoor
open Go.RowKit

set_option maxRecDepth 100000 in
theorem smallPic_any (w : World) (wd ht : Nat) : Calls Tryd.prog 35 #[.int .i64 0, .int .i64 wd, .int .i64 ht] w fun e w' => e = .returned (.tuple #[.int .i64 wd, .int .i64 ht]) ∧ w' = w := by
  go_enter Tryd.func35, Tryd.ntmps35
  go_wp2_with fail
  go_ret2
  exact ⟨rfl, rfl⟩
set_option maxRecDepth 100000 in
theorem ratios_any (w : World) : Calls Tryd.prog 36 #[] w fun e w' => e = .returned (.slice (some ⟨w.heap.size, 0, none⟩) 6 6) ∧ w' = w.alloc (.cells #[.int .i64 0, .int .i64 1, .int .i64 2, .int .i64 3, .int .i64 4, .int .i64 5] 99) := by
  go_enter Tryd.func36, Tryd.ntmps36
  go_wp2_with fail
  go_ret
  exact ⟨rfl, rfl⟩
end Go.Proofs.YtlibflbpajeeeaaDoor

namespace Go.Proofs.YtlibflbpajeeeaaDoor
open Go.RowKit

/-- What the last statement of picture reads. -/
structure PicT (w : World) (A P p0 p1 p2 n c0 c1 c2 wd ht cp : Nat) (L0 L1 L2 : List Int) (w' : World) : Prop where
  p : w'.cell? ⟨A, 4, none⟩ = some (.slice (some ⟨P, 0, none⟩) 3 cp)
  s : w'.cell? ⟨A, 1, none⟩ = some (.int .i64 wd)
  ra : w'.cell? ⟨A, 3, none⟩ = some (.int .i64 0)
  b0 : w'.cell? ⟨P, 0, none⟩ = some (.slice (some ⟨p0, 0, none⟩) n c0)
  b1 : w'.cell? ⟨P, 1, none⟩ = some (.slice (some ⟨p1, 0, none⟩) n c1)
  b2 : w'.cell? ⟨P, 2, none⟩ = some (.slice (some ⟨p2, 0, none⟩) n c2)
  r0 : w'.cell? ⟨A + 1 + 1, 0, none⟩ = some (.int .i64 0)
  r1 : w'.cell? ⟨A + 1 + 1, 1, none⟩ = some (.int .i64 0)
  r2 : w'.cell? ⟨A + 1 + 1, 2, none⟩ = some (.int .i64 wd)
  r3 : w'.cell? ⟨A + 1 + 1, 3, none⟩ = some (.int .i64 ht)
  row0 : RowAt w' 5 (.slice (some ⟨p0, 0, none⟩) n c0) (L0.map u8v)
  row1 : RowAt w' 5 (.slice (some ⟨p1, 0, none⟩) n c1) (L1.map u8v)
  row2 : RowAt w' 5 (.slice (some ⟨p2, 0, none⟩) n c2) (L2.map u8v)
  bw : Below w.heap.size w w'
theorem PicT.below {w w' w'' : World} {A P p0 p1 p2 n c0 c1 c2 wd ht cp : Nat} {L0 L1 L2 : List Int} (h : PicT w A P p0 p1 p2 n c0 c1 c2 wd ht cp L0 L1 L2 w') (hb : Below w'.heap.size w' w'') : PicT w A P p0 p1 p2 n c0 c1 c2 wd ht cp L0 L1 L2 w'' := by
  have c : ∀ {a : Addr} {v : Value}, w'.cell? a = some v → w''.cell? a = some v := fun {a v} e => (hb.cell (World.block_lt_of_cell? w' _ e)).trans e
  exact ⟨c h.p, c h.s, c h.ra, c h.b0, c h.b1, c h.b2, c h.r0, c h.r1, c h.r2, c h.r3, h.row0.same fun g hg => hb.block g (h.row0.lt hg), h.row1.same fun g hg => hb.block g (h.row1.lt hg), h.row2.same fun g hg => hb.block g (h.row2.lt hg), h.bw.trans (hb.mono h.bw.size)⟩
theorem PicT.start {w : World} {P p0 p1 p2 n c0 c1 c2 wd ht cp : Nat} {L0 L1 L2 : List Int} (h0 : w.cell? ⟨P, 0, none⟩ = some (.slice (some ⟨p0, 0, none⟩) n c0)) (h1 : w.cell? ⟨P, 1, none⟩ = some (.slice (some ⟨p1, 0, none⟩) n c1)) (h2 : w.cell? ⟨P, 2, none⟩ = some (.slice (some ⟨p2, 0, none⟩) n c2))
    (k0 : RowAt w 5 (.slice (some ⟨p0, 0, none⟩) n c0) (L0.map u8v)) (k1 : RowAt w 5 (.slice (some ⟨p1, 0, none⟩) n c1) (L1.map u8v)) (k2 : RowAt w 5 (.slice (some ⟨p2, 0, none⟩) n c2) (L2.map u8v)) :
    PicT w w.heap.size P p0 p1 p2 n c0 c1 c2 wd ht cp L0 L1 L2 (((w.alloc (.cells #[.int .i64 2, .int .i64 wd, .int .i64 ht, .int .i64 0, .slice (some ⟨P, 0, none⟩) 3 cp] 30)).alloc (.cells #[.int .i64 0, .int .i64 0, .int .i64 wd, .int .i64 ht] 88)).alloc (.cells #[.int .i64 0, .int .i64 0, .int .i64 wd, .int .i64 ht] 88)) := by
  obtain ⟨w1, hw1⟩ : ∃ w1, w1 = w.alloc (.cells #[.int .i64 2, .int .i64 wd, .int .i64 ht, .int .i64 0, .slice (some ⟨P, 0, none⟩) 3 cp] 30) := ⟨_, rfl⟩
  have hA : w1.heap[w.heap.size]? = some (.cells #[.int .i64 2, .int .i64 wd, .int .i64 ht, .int .i64 0, .slice (some ⟨P, 0, none⟩) 3 cp] 30 (0, 0)) := by rw [hw1]; exact heap_alloc_new _ _
  have hs1 : w1.heap.size = w.heap.size + 1 := by rw [hw1]; simp
  have a4 : w1.cell? ⟨w.heap.size, 4, none⟩ = some (.slice (some ⟨P, 0, none⟩) 3 cp) := by rw [cell_of_row _ _ _ _ 30 (0, 0) hA]; rfl
  have a1 : w1.cell? ⟨w.heap.size, 1, none⟩ = some (.int .i64 wd) := by rw [cell_of_row _ _ _ _ 30 (0, 0) hA]; rfl
  have a3 : w1.cell? ⟨w.heap.size, 3, none⟩ = some (.int .i64 0) := by rw [cell_of_row _ _ _ _ 30 (0, 0) hA]; rfl
  have hR : ((w1.alloc (.cells #[.int .i64 0, .int .i64 0, .int .i64 wd, .int .i64 ht] 88)).alloc (.cells #[.int .i64 0, .int .i64 0, .int .i64 wd, .int .i64 ht] 88)).heap[w.heap.size + 1 + 1]? = some (.cells #[.int .i64 0, .int .i64 0, .int .i64 wd, .int .i64 ht] 88 (0, 0)) := by
    have := heap_alloc_new (w1.alloc (.cells #[.int .i64 0, .int .i64 0, .int .i64 wd, .int .i64 ht] 88)) (.cells #[.int .i64 0, .int .i64 0, .int .i64 wd, .int .i64 ht] 88)
    rw [show (w1.alloc (.cells #[.int .i64 0, .int .i64 0, .int .i64 wd, .int .i64 ht] 88)).heap.size = w.heap.size + 1 + 1 by simp [hs1]] at this
    exact this
  have hp : ∀ {b j : Nat} {v : Value}, w.cell? ⟨b, j, none⟩ = some v → w1.cell? ⟨b, j, none⟩ = some v := fun {b j v} e => by rw [hw1]; exact past1 e _
  have hr : ∀ {v : Value} {xs : List Value}, RowAt w 5 v xs → RowAt w1 5 v xs := fun {v xs} e => by rw [hw1]; exact e.alloc _
  have hb1 : Below w.heap.size w w1 := by rw [hw1]; exact (Below.refl _ _).alloc (Nat.le_refl _) _
  rw [← hw1]
  exact ⟨past1 (past1 a4 _) _, past1 (past1 a1 _) _, past1 (past1 a3 _) _, past1 (past1 (hp h0) _) _, past1 (past1 (hp h1) _) _, past1 (past1 (hp h2) _) _, by rw [cell_of_row _ _ _ _ 88 (0, 0) hR]; rfl, by rw [cell_of_row _ _ _ _ 88 (0, 0) hR]; rfl, by rw [cell_of_row _ _ _ _ 88 (0, 0) hR]; rfl, by rw [cell_of_row _ _ _ _ 88 (0, 0) hR]; rfl,
    ((hr k0).alloc _).alloc _, ((hr k1).alloc _).alloc _, ((hr k2).alloc _).alloc _, (hb1.alloc hb1.size _).alloc (by simp; omega) _⟩
theorem PicT.full {w w' : World} {A P p0 p1 p2 n c0 c1 c2 wd ht cp : Nat} {L0 L1 L2 : List Int} (h : PicT w A P p0 p1 p2 n c0 c1 c2 wd ht cp L0 L1 L2 w') :
    (w'.cell? ⟨A, 4, none⟩ = some (.slice (some ⟨P, 0, none⟩) 3 cp) ∧ w'.cell? ⟨A, 1, none⟩ = some (.int .i64 wd) ∧ w'.cell? ⟨A, 3, none⟩ = some (.int .i64 0) ∧ w'.cell? ⟨P, 0, none⟩ = some (.slice (some ⟨p0, 0, none⟩) n c0) ∧ w'.cell? ⟨P, 1, none⟩ = some (.slice (some ⟨p1, 0, none⟩) n c1) ∧ w'.cell? ⟨P, 2, none⟩ = some (.slice (some ⟨p2, 0, none⟩) n c2) ∧
      w'.cell? ⟨A + 1 + 1, 0, none⟩ = some (.int .i64 0) ∧ w'.cell? ⟨A + 1 + 1, 1, none⟩ = some (.int .i64 0) ∧ w'.cell? ⟨A + 1 + 1, 2, none⟩ = some (.int .i64 wd) ∧ w'.cell? ⟨A + 1 + 1, 3, none⟩ = some (.int .i64 ht)) ∧ PicT w A P p0 p1 p2 n c0 c1 c2 wd ht cp L0 L1 L2 w' := ⟨⟨h.p, h.s, h.ra, h.b0, h.b1, h.b2, h.r0, h.r1, h.r2, h.r3⟩, h⟩

def PicYPost (w : World) (wd ht : Nat) (L0 L1 L2 : List Int) (e : Ending) (w' : World) : Prop :=
  ∃ M q0 q1 q2, e = .returned (.iface 98 (.pointer (some ⟨M, 0, none⟩))) ∧ YccAt w' M q0 q1 q2 wd ht L0 L1 L2 ∧ w.heap.size ≤ M ∧ (w.heap.size ≤ q0 ∧ w.heap.size ≤ q1 ∧ w.heap.size ≤ q2) ∧ Below w.heap.size w w'

set_option maxRecDepth 100000 in
set_option maxHeartbeats 2000000 in
theorem picYcc_any (w : World) (P cp p0 c0 p1 c1 p2 c2 wd ht : Nat) (L0 L1 L2 : List Int) (h0 : w.cell? ⟨P, 0, none⟩ = some (.slice (some ⟨p0, 0, none⟩) (wd * ht) c0)) (h1 : w.cell? ⟨P, 1, none⟩ = some (.slice (some ⟨p1, 0, none⟩) (wd * ht) c1)) (h2 : w.cell? ⟨P, 2, none⟩ = some (.slice (some ⟨p2, 0, none⟩) (wd * ht) c2))
    (k0 : RowAt w 5 (.slice (some ⟨p0, 0, none⟩) (wd * ht) c0) (L0.map u8v)) (k1 : RowAt w 5 (.slice (some ⟨p1, 0, none⟩) (wd * ht) c1) (L1.map u8v)) (k2 : RowAt w 5 (.slice (some ⟨p2, 0, none⟩) (wd * ht) c2) (L2.map u8v)) (hL : L0.length = wd * ht ∧ L1.length = wd * ht ∧ L2.length = wd * ht)
    (h8 : ∀ k, (0 ≤ L0.getD k 0 ∧ L0.getD k 0 ≤ 255) ∧ (0 ≤ L1.getD k 0 ∧ L1.getD k 0 ≤ 255) ∧ (0 ≤ L2.getD k 0 ∧ L2.getD k 0 ≤ 255)) (hd : 1 ≤ wd ∧ wd ≤ 100 ∧ 1 ≤ ht ∧ ht ≤ 100) :
    Calls Tryd.prog 16 #[.agg #[.int .i64 2, .int .i64 wd, .int .i64 ht, .int .i64 0, .slice (some ⟨P, 0, none⟩) 3 cp]] w (PicYPost w wd ht L0 L1 L2) := by
  obtain ⟨hd1, hd2, hd3, hd4⟩ := hd
  have hm0 : 0 < wd * ht := Nat.mul_pos hd1 hd3
  have hm1 : wd * ht ≤ 100 * 100 := Nat.mul_le_mul hd2 hd4
  obtain ⟨n, hn⟩ : ∃ n, n = wd * ht := ⟨_, rfl⟩
  rw [← hn] at h0 h1 h2 k0 k1 k2 hL hm0 hm1
  have hmul : (wd : Int) * (ht : Int) = (n : Int) := by rw [hn]; push_cast; rfl
  have b1 : decide ((wd : Int) < 0) = false := by simp
  have b2 : decide (100 < (wd : Int)) = false := by simp; omega
  have b3 : decide ((ht : Int) < 0) = false := by simp
  have b4 : decide (100 < (ht : Int)) = false := by simp; omega
  have hP0 : ∀ A B C, (((w.alloc A).alloc B).alloc C).cell? ⟨P, 0, none⟩ = some (.slice (some ⟨p0, 0, none⟩) n c0) := fun A B C => past1 (past1 (past1 h0 A) B) C
  have hP1 : ∀ A B C, (((w.alloc A).alloc B).alloc C).cell? ⟨P, 1, none⟩ = some (.slice (some ⟨p1, 0, none⟩) n c1) := fun A B C => past1 (past1 (past1 h1 A) B) C
  have hP2 : ∀ A B C, (((w.alloc A).alloc B).alloc C).cell? ⟨P, 2, none⟩ = some (.slice (some ⟨p2, 0, none⟩) n c2) := fun A B C => past1 (past1 (past1 h2 A) B) C
  have HP := Lib.hid (And.intro h0 (And.intro h1 h2))
  have HR := Lib.hid (And.intro k0 (And.intro k1 k2))
  have HL := Lib.hid hL
  have H8 := Lib.hid h8
  have HN := Lib.hid hn
  clear h0 h1 h2 k0 k1 k2 hL h8 hn
  go_enter Tryd.func16, Tryd.ntmps16
  go_upto_region 13 with (first | (go_at_call 33; refine (rect_any _ wd ht (by omega)).mono ?_; rintro e w' ⟨rfl, rfl⟩) | (go_at_call 35; refine (smallPic_any _ wd ht).mono ?_; rintro e w' ⟨rfl, rfl⟩))
  have hS := PicT.start (wd := wd) (ht := ht) (cp := cp) HP.out.1 HP.out.2.1 HP.out.2.2 HR.out.1 HR.out.2.1 HR.out.2.2
  clear hP0 hP1 hP2
  generalize ((w.alloc _).alloc _).alloc _ = W3 at hS ⊢
  obtain ⟨A, hA⟩ : ∃ A, A = w.heap.size := ⟨_, rfl⟩
  rw [← hA] at hS ⊢
  have HA := Lib.hid hA
  clear hA
  refine wp_region_noPanic ?_
  refine wp_region_held_drew (S := (fun w' => (w'.cell? ⟨A, 4, none⟩ = some (.slice (some ⟨P, 0, none⟩) 3 cp) ∧ w'.cell? ⟨A, 1, none⟩ = some (.int .i64 wd) ∧ w'.cell? ⟨A, 3, none⟩ = some (.int .i64 0) ∧ w'.cell? ⟨P, 0, none⟩ = some (.slice (some ⟨p0, 0, none⟩) n c0) ∧ w'.cell? ⟨P, 1, none⟩ = some (.slice (some ⟨p1, 0, none⟩) n c1) ∧ w'.cell? ⟨P, 2, none⟩ = some (.slice (some ⟨p2, 0, none⟩) n c2) ∧
      w'.cell? ⟨A + 1 + 1, 0, none⟩ = some (.int .i64 0) ∧ w'.cell? ⟨A + 1 + 1, 1, none⟩ = some (.int .i64 0) ∧ w'.cell? ⟨A + 1 + 1, 2, none⟩ = some (.int .i64 wd) ∧ w'.cell? ⟨A + 1 + 1, 3, none⟩ = some (.int .i64 ht)) ∧ PicT w A P p0 p1 p2 n c0 c1 c2 wd ht cp L0 L1 L2 w')) (by kernel_rfl) (PicT.full (PicT.below hS (Below.drew (Below.refl _ _)))) (fun hHeld => ?_)
  refine wpAnyH_take (i := 0) (oi := _) (v := ?_) rfl (by kernel_rfl) (by kernel_rfl) (by kernel_rfl) (fun _ _ _ h => h) (Or.inl ⟨?_, ?_⟩) hHeld ?_
  rotate_left
  · rfl
  · intro w hSw; (try dsimp only at hSw); first | (go_simp; done) | (go_simp; with_reducible rfl)
  try simp only [Act.put, List.getElem_toArray, List.getElem_cons_zero, List.setIfInBounds_toArray, List.set_cons_zero, List.set_cons_succ]
  refine wpAnyH_take (i := 1) (oi := _) (v := ?_) rfl (by kernel_rfl) (by kernel_rfl) (by kernel_rfl) (fun _ _ _ h => h) (Or.inl ⟨?_, ?_⟩) hHeld ?_
  rotate_left
  · rfl
  · intro w hSw; (try dsimp only at hSw); first | (go_simp; done) | (go_simp; with_reducible rfl)
  try simp only [Act.put, List.getElem_toArray, List.getElem_cons_succ, List.getElem_cons_zero, List.setIfInBounds_toArray, List.set_cons_zero, List.set_cons_succ]
  refine wpAnyH_take (i := 2) (oi := _) (v := ?_) rfl (by kernel_rfl) (by kernel_rfl) (by kernel_rfl) (fun _ _ _ h => h) (Or.inl ⟨?_, ?_⟩) hHeld ?_
  rotate_left
  · rfl
  · intro w hSw; (try dsimp only at hSw); first | (go_simp; done) | (go_simp; with_reducible rfl)
  try simp only [Act.put, List.getElem_toArray, List.getElem_cons_succ, List.getElem_cons_zero, List.setIfInBounds_toArray, List.set_cons_zero, List.set_cons_succ]
  refine wpAnyH_take (i := 3) (oi := _) (v := ?_) rfl (by kernel_rfl) (by kernel_rfl) (by kernel_rfl) (fun _ _ _ h => h) (Or.inl ⟨?_, ?_⟩) hHeld ?_
  rotate_left
  · rfl
  · intro w hSw; (try dsimp only at hSw); first | (go_simp; done) | (go_simp; with_reducible rfl)
  try simp only [Act.put, List.getElem_toArray, List.getElem_cons_succ, List.getElem_cons_zero, List.setIfInBounds_toArray, List.set_cons_zero, List.set_cons_succ]
  refine wpAnyH_take (i := 5) (oi := _) (v := ?_) rfl (by kernel_rfl) (by kernel_rfl) (by kernel_rfl) (fun _ _ _ h => h) (Or.inl ⟨?_, ?_⟩) hHeld ?_
  rotate_left
  · rfl
  · intro w hSw; (try dsimp only at hSw); first | (go_simp; done) | (go_simp; with_reducible rfl)
  try simp only [Act.put, List.getElem_toArray, List.getElem_cons_succ, List.getElem_cons_zero, List.setIfInBounds_toArray, List.set_cons_zero, List.set_cons_succ]
  refine wpAnyH_take (i := 6) (oi := _) (v := ?_) rfl (by kernel_rfl) (by kernel_rfl) (by kernel_rfl) (fun _ _ _ h => h) (Or.inl ⟨?_, ?_⟩) hHeld ?_
  rotate_left
  · rfl
  · intro w hSw; (try dsimp only at hSw); first | (go_simp; done) | (go_simp; with_reducible rfl)
  try simp only [Act.put, List.getElem_toArray, List.getElem_cons_succ, List.getElem_cons_zero, List.setIfInBounds_toArray, List.set_cons_zero, List.set_cons_succ]
  refine wpAnyH_take (i := 7) (oi := _) (v := ?_) rfl (by kernel_rfl) (by kernel_rfl) (by kernel_rfl) (fun _ _ _ h => h) (Or.inl ⟨?_, ?_⟩) hHeld ?_
  rotate_left
  · rfl
  · intro w hSw; (try dsimp only at hSw); first | (go_simp; done) | (go_simp; with_reducible rfl)
  try simp only [Act.put, List.getElem_toArray, List.getElem_cons_succ, List.getElem_cons_zero, List.setIfInBounds_toArray, List.set_cons_zero, List.set_cons_succ]
  refine wpAnyH_take (i := 8) (oi := _) (v := ?_) rfl (by kernel_rfl) (by kernel_rfl) (by kernel_rfl) (fun _ _ _ h => h) (Or.inl ⟨?_, ?_⟩) hHeld ?_
  rotate_left
  · rfl
  · intro w hSw; (try dsimp only at hSw); first | (go_simp; done) | (go_simp; with_reducible rfl)
  try simp only [Act.put, List.getElem_toArray, List.getElem_cons_succ, List.getElem_cons_zero, List.setIfInBounds_toArray, List.set_cons_zero, List.set_cons_succ]
  refine wpAnyH_take (i := 10) (oi := _) (v := ?_) rfl (by kernel_rfl) (by kernel_rfl) (by kernel_rfl) (fun _ _ _ h => h) (Or.inl ⟨?_, ?_⟩) hHeld ?_
  rotate_left
  · rfl
  · intro w hSw; (try dsimp only at hSw); first | (go_simp; done) | (go_simp; with_reducible rfl)
  try simp only [Act.put, List.getElem_toArray, List.getElem_cons_succ, List.getElem_cons_zero, List.setIfInBounds_toArray, List.set_cons_zero, List.set_cons_succ]
  refine wpAnyH_take (i := 11) (oi := _) (v := ?_) rfl (by kernel_rfl) (by kernel_rfl) (by kernel_rfl) (fun _ _ _ h => h) (Or.inl ⟨?_, ?_⟩) hHeld ?_
  rotate_left
  · rfl
  · intro w hSw; (try dsimp only at hSw); first | (go_simp; done) | (go_simp; with_reducible rfl)
  try simp only [Act.put, List.getElem_toArray, List.getElem_cons_succ, List.getElem_cons_zero, List.setIfInBounds_toArray, List.set_cons_zero, List.set_cons_succ]
  refine wpAnyH_take (i := 12) (oi := _) (v := ?_) rfl (by kernel_rfl) (by kernel_rfl) (by kernel_rfl) (fun _ _ _ h => h) (Or.inl ⟨?_, ?_⟩) hHeld ?_
  rotate_left
  · rfl
  · intro w hSw; (try dsimp only at hSw); first | (go_simp; done) | (go_simp; with_reducible rfl)
  try simp only [Act.put, List.getElem_toArray, List.getElem_cons_succ, List.getElem_cons_zero, List.setIfInBounds_toArray, List.set_cons_zero, List.set_cons_succ]
  refine wpAnyH_take (i := 13) (oi := _) (v := ?_) rfl (by kernel_rfl) (by kernel_rfl) (by kernel_rfl) (fun _ _ _ h => h) (Or.inl ⟨?_, ?_⟩) hHeld ?_
  rotate_left
  · rfl
  · intro w hSw; (try dsimp only at hSw); first | (go_simp; done) | (go_simp; with_reducible rfl)
  try simp only [Act.put, List.getElem_toArray, List.getElem_cons_succ, List.getElem_cons_zero, List.setIfInBounds_toArray, List.set_cons_zero, List.set_cons_succ]
  refine wpAnyH_take (i := 15) (oi := _) (v := ?_) rfl (by kernel_rfl) (by kernel_rfl) (by kernel_rfl) (fun _ _ _ h => h) (Or.inl ⟨?_, ?_⟩) hHeld ?_
  rotate_left
  · rfl
  · intro w hSw; (try dsimp only at hSw); first | (go_simp; done) | (go_simp; with_reducible rfl)
  try simp only [Act.put, List.getElem_toArray, List.getElem_cons_succ, List.getElem_cons_zero, List.setIfInBounds_toArray, List.set_cons_zero, List.set_cons_succ]
  refine wpAnyH_take (i := 16) (oi := _) (v := ?_) rfl (by kernel_rfl) (by kernel_rfl) (by kernel_rfl) (fun _ _ _ h => h) (Or.inl ⟨?_, ?_⟩) hHeld ?_
  rotate_left
  · rfl
  · intro w hSw; (try dsimp only at hSw); first | (go_simp; done) | (go_simp; with_reducible rfl)
  try simp only [Act.put, List.getElem_toArray, List.getElem_cons_succ, List.getElem_cons_zero, List.setIfInBounds_toArray, List.set_cons_zero, List.set_cons_succ]
  refine wpAnyH_take (i := 17) (oi := _) (v := ?_) rfl (by kernel_rfl) (by kernel_rfl) (by kernel_rfl) (fun _ _ _ h => h) (Or.inl ⟨?_, ?_⟩) hHeld ?_
  rotate_left
  · rfl
  · intro w hSw; (try dsimp only at hSw); first | (go_simp; done) | (go_simp; with_reducible rfl)
  try simp only [Act.put, List.getElem_toArray, List.getElem_cons_succ, List.getElem_cons_zero, List.setIfInBounds_toArray, List.set_cons_zero, List.set_cons_succ]
  refine wpAnyH_take (i := 19) (oi := _) (v := ?_) rfl (by kernel_rfl) (by kernel_rfl) (by kernel_rfl) (fun _ _ _ h => h) (Or.inl ⟨?_, ?_⟩) hHeld ?_
  rotate_left
  · rfl
  · intro w hSw; (try dsimp only at hSw); first | (go_simp; done) | (go_simp; with_reducible rfl)
  try simp only [Act.put, List.getElem_toArray, List.getElem_cons_succ, List.getElem_cons_zero, List.setIfInBounds_toArray, List.set_cons_zero, List.set_cons_succ]
  refine wpAnyH_take (i := 20) (oi := _) (v := ?_) rfl (by kernel_rfl) (by kernel_rfl) (by kernel_rfl) (fun _ _ _ h => h) (Or.inl ⟨?_, ?_⟩) hHeld ?_
  rotate_left
  · rfl
  · intro w hSw; (try dsimp only at hSw); first | (go_simp; done) | (go_simp; with_reducible rfl)
  try simp only [Act.put, List.getElem_toArray, List.getElem_cons_succ, List.getElem_cons_zero, List.setIfInBounds_toArray, List.set_cons_zero, List.set_cons_succ]
  refine wpAnyH_take (i := 23) (oi := _) (v := ?_) rfl (by kernel_rfl) (by kernel_rfl) (by kernel_rfl) (fun _ _ _ h => h) (Or.inl ⟨?_, ?_⟩) hHeld ?_
  rotate_left
  · rfl
  · intro w hSw; (try dsimp only at hSw); first | (go_simp; done) | (go_simp; with_reducible rfl)
  try simp only [Act.put, List.getElem_toArray, List.getElem_cons_succ, List.getElem_cons_zero, List.setIfInBounds_toArray, List.set_cons_zero, List.set_cons_succ]
  refine wpAnyH_ready (rs := [4]) (by kernel_rfl) (by simp) ?_
  refine AllReadyH.cons (o := _) rfl (fun K hK => ?_) AllReadyH.nil
  go_simp
  go_at_call 34
  refine (clone_any _ p0 n c0 L0 hHeld.2.row0 HL.out.1 hm0 (by omega)).mono ?_
  rintro e w4 ⟨g0, cap0, rfl, hr0, hg0, hl0, hb0⟩
  go_wp2_with fail
  refine hK.out _ _ (PicT.full (PicT.below hHeld.2 hb0)) (fun hHeld2 => ?_)
  clear hK K hHeld
  have hHeld := hHeld2
  clear hHeld2
  try simp only [Act.put, List.getElem_toArray, List.getElem_cons_succ, List.getElem_cons_zero, List.setIfInBounds_toArray, List.set_cons_zero, List.set_cons_succ]
  refine wpAnyH_ready (rs := [9]) (by kernel_rfl) (by simp) ?_
  refine AllReadyH.cons (o := _) rfl (fun K hK => ?_) AllReadyH.nil
  go_simp
  go_at_call 34
  refine (clone_any _ p1 n c1 L1 hHeld.2.row1 HL.out.2.1 hm0 (by omega)).mono ?_
  rintro e w5 ⟨g1, cap1, rfl, hr1, hg1, hl1, hb1⟩
  go_wp2_with fail
  refine hK.out _ _ (PicT.full (PicT.below hHeld.2 hb1)) (fun hHeld2 => ?_)
  clear hK K hHeld
  have hHeld := hHeld2
  clear hHeld2
  try simp only [Act.put, List.getElem_toArray, List.getElem_cons_succ, List.getElem_cons_zero, List.setIfInBounds_toArray, List.set_cons_zero, List.set_cons_succ]
  refine wpAnyH_ready (rs := [14]) (by kernel_rfl) (by simp) ?_
  refine AllReadyH.cons (o := _) rfl (fun K hK => ?_) AllReadyH.nil
  go_simp
  go_at_call 34
  refine (clone_any _ p2 n c2 L2 hHeld.2.row2 HL.out.2.2 hm0 (by omega)).mono ?_
  rintro e w6 ⟨g2, cap2, rfl, hr2, hg2, hl2, hb2⟩
  go_wp2_with fail
  refine hK.out _ _ (PicT.full (PicT.below hHeld.2 hb2)) (fun hHeld2 => ?_)
  clear hK K hHeld
  have hHeld := hHeld2
  clear hHeld2
  try simp only [Act.put, List.getElem_toArray, List.getElem_cons_succ, List.getElem_cons_zero, List.setIfInBounds_toArray, List.set_cons_zero, List.set_cons_succ]
  refine wpAnyH_ready (rs := [18]) (by kernel_rfl) (by simp) ?_
  refine AllReadyH.cons (o := _) rfl (fun K hK => ?_) AllReadyH.nil
  go_simp
  go_at_call 36
  refine (ratios_any _).mono ?_
  rintro e w' ⟨rfl, rfl⟩
  go_wp2_with fail
  refine hK.out _ _ (PicT.full (PicT.below hHeld.2 (Below.alloc (Below.refl _ _) (Nat.le_refl _) _))) (fun hHeld2 => ?_)
  clear hK K hHeld
  have hHeld := hHeld2
  clear hHeld2
  try simp only [Act.put, List.getElem_toArray, List.getElem_cons_succ, List.getElem_cons_zero, List.setIfInBounds_toArray, List.set_cons_zero, List.set_cons_succ]
  refine wpAnyH_take (i := 21) (oi := _) (v := ?_) rfl (by kernel_rfl) (by kernel_rfl) (by kernel_rfl) (fun _ _ _ h => h) (Or.inl ⟨?_, ?_⟩) hHeld ?_
  rotate_left
  · rfl
  · intro w hSw; (try dsimp only at hSw); first | (go_simp; done) | (go_simp; with_reducible rfl)
  try simp only [Act.put, List.getElem_toArray, List.getElem_cons_succ, List.getElem_cons_zero, List.setIfInBounds_toArray, List.set_cons_zero, List.set_cons_succ]
  refine wpAnyH_ready (rs := [22]) (by kernel_rfl) (by simp) ?_
  refine AllReadyH.cons (o := _) rfl (fun K hK => ?_) AllReadyH.nil
  go_simp
  refine hK.out _ _ hHeld (fun hHeld2 => ?_)
  clear hK K hHeld
  have hHeld := hHeld2
  clear hHeld2
  try simp only [Act.put, List.getElem_toArray, List.getElem_cons_succ, List.getElem_cons_zero, List.setIfInBounds_toArray, List.set_cons_zero, List.set_cons_succ]
  refine wpAnyH_take (i := 24) (oi := _) (v := ?_) rfl (by kernel_rfl) (by kernel_rfl) (by kernel_rfl) (fun _ _ _ h => h) (Or.inl ⟨?_, ?_⟩) hHeld ?_
  rotate_left
  · rfl
  · intro w hSw; (try dsimp only at hSw); first | (go_simp; done) | (go_simp; with_reducible rfl)
  try simp only [Act.put, List.getElem_toArray, List.getElem_cons_succ, List.getElem_cons_zero, List.setIfInBounds_toArray, List.set_cons_zero, List.set_cons_succ]
  refine wpAnyH_ready (rs := [25]) (by kernel_rfl) (by simp) ?_
  refine AllReadyH.cons (o := _) rfl (fun K hK => ?_) AllReadyH.nil
  go_simp
  refine hK.out _ _ (PicT.full (PicT.below hHeld.2 (Below.alloc (Below.refl _ _) (Nat.le_refl _) _))) (fun hHeld2 => ?_)
  clear hK K hHeld
  have hHeld := hHeld2
  clear hHeld2
  try simp only [Act.put, List.getElem_toArray, List.getElem_cons_succ, List.getElem_cons_zero, List.setIfInBounds_toArray, List.set_cons_zero, List.set_cons_succ]
  refine wpAnyH_take (i := 26) (oi := _) (v := ?_) rfl (by kernel_rfl) (by kernel_rfl) (by kernel_rfl) (fun _ _ _ h => h) (Or.inl ⟨?_, ?_⟩) hHeld ?_
  rotate_left
  · rfl
  · intro w hSw; (try dsimp only at hSw); first | (go_simp; done) | (go_simp; with_reducible rfl)
  try simp only [Act.put, List.getElem_toArray, List.getElem_cons_succ, List.getElem_cons_zero, List.setIfInBounds_toArray, List.set_cons_zero, List.set_cons_succ]
  refine wpAnyH_take (i := 27) (oi := _) (v := ?_) rfl (by kernel_rfl) (by kernel_rfl) (by kernel_rfl) (fun _ _ _ h => h) (Or.inl ⟨?_, ?_⟩) hHeld ?_
  rotate_left
  · rfl
  · intro w hSw; (try dsimp only at hSw); first | (go_simp; done) | (go_simp; with_reducible rfl)
  try simp only [Act.put, List.getElem_toArray, List.getElem_cons_succ, List.getElem_cons_zero, List.setIfInBounds_toArray, List.set_cons_zero, List.set_cons_succ]
  refine wpAnyH_done (by kernel_rfl) ?_ _
  refine NoPanic.normal ?_
  -- END OF REGION 13
  have HX0 := Lib.hid (And.intro hr0 (And.intro hg0 (And.intro hl0 hb0)))
  have HX1 := Lib.hid (And.intro hr1 (And.intro hg1 (And.intro hl1 hb1)))
  have HX2 := Lib.hid (And.intro hr2 (And.intro hg2 (And.intro hl2 hb2)))
  clear hr0 hg0 hl0 hb0 hr1 hg1 hl1 hb1 hr2 hg2 hl2 hb2 hHeld
  go_wp2_with fail
  go_ret
  obtain ⟨hr0, hg0, hl0, hb0⟩ := HX0.out
  obtain ⟨hr1, hg1, hl1, hb1⟩ := HX1.out
  obtain ⟨hr2, hg2, hl2, hb2⟩ := HX2.out
  have hg0' : W3.heap.size ≤ g0 := hg0
  have hsz := hS.bw.size
  have hs0 : W3.heap.size ≤ w4.heap.size := hb0.size
  have hs1 := hb1.size
  have hs2 := hb2.size
  have hb6 := hS.bw.trans ((((Below.drew (Below.refl W3.heap.size W3)).trans hb0).trans ((hb1.trans (hb2.mono hs1)).mono hs0)) |>.mono hsz)
  have q0 := (hr0.same fun g e => hb1.block g (hr0.lt e)).same fun g e => hb2.block g (Nat.lt_of_lt_of_le (hr0.lt e) hs1)
  have q1 := hr1.same fun g e => hb2.block g (hr1.lt e)
  obtain ⟨O1, hO1⟩ : ∃ o, o = Obj.cells #[.int .i64 0, .int .i64 1, .int .i64 2, .int .i64 3, .int .i64 4, .int .i64 5] 99 := ⟨_, rfl⟩
  obtain ⟨hL0, hL1, hL2⟩ := HL.out
  have hM : ((w6.alloc O1).alloc (.cells #[.slice (some ⟨g0, 0, none⟩) L0.length cap0, .slice (some ⟨g1, 0, none⟩) L1.length cap1, .slice (some ⟨g2, 0, none⟩) L2.length cap2, .int .i64 wd, .int .i64 wd, .int .i64 0, .int .i64 0, .int .i64 0, .int .i64 wd, .int .i64 ht] 103)).heap[w6.heap.size + 1]? = some (.cells #[.slice (some ⟨g0, 0, none⟩) L0.length cap0, .slice (some ⟨g1, 0, none⟩) L1.length cap1, .slice (some ⟨g2, 0, none⟩) L2.length cap2, .int .i64 wd, .int .i64 wd, .int .i64 0, .int .i64 0, .int .i64 0, .int .i64 wd, .int .i64 ht] 103 (0, 0)) := heap_alloc2_new _ _ _
  have hn := HN.out
  rw [← hO1]
  have px : ∀ {g cap : Nat} {L : List Int}, L.length = n → RowAt w6 5 (.slice (some ⟨g, 0, none⟩) L.length cap) (L.map u8v) → ∀ O2 k, k < wd * ht → ((w6.alloc O1).alloc O2).cell? ⟨g, k, none⟩ = some (.int .u8 (L.getD k 0)) := fun {g cap L} hL hr O2 k hk => by
    rw [((hr.alloc O1).alloc O2).cell rfl k (by rw [List.length_map]; omega), List.getElem_map, List.getD_eq_getElem?_getD, List.getElem?_eq_getElem (by omega)]
    rfl
  refine ⟨w6.heap.size + 1, g0, g1, g2, rfl, ⟨⟨cap0, ?_⟩, ⟨cap1, ?_⟩, ⟨cap2, ?_⟩, ?_, ?_, ?_, ?_, ?_, ?_, ?_, px hL0 q0 _, px hL1 q1 _, px hL2 hr2 _, H8.out, ⟨hd1, hd2, hd3, hd4⟩, by simp; omega⟩, ?_, by omega, (hb6.alloc (by have := hb6.size; omega) _).alloc (by have := hb6.size; simp; omega) _⟩
  · rw [cell_of_row _ _ _ _ 103 (0, 0) hM, ← hn, ← hL0]; rfl
  · rw [cell_of_row _ _ _ _ 103 (0, 0) hM, ← hn, ← hL1]; rfl
  · rw [cell_of_row _ _ _ _ 103 (0, 0) hM, ← hn, ← hL2]; rfl
  all_goals first | (rw [cell_of_row _ _ _ _ 103 (0, 0) hM]; rfl) | (have := hb6.size; omega)
end Go.Proofs.YtlibflbpajeeeaaDoor
