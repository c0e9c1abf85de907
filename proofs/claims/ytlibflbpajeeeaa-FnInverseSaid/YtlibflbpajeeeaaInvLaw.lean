/- The walk of FnInverse where nothing is turned away at once: the law returns true. Conditions: at most 100 numbers that lie in memory. -/
import Derived.Test.YtlibflbpajeeeaaComp
import Derived.Test.YtlibflbpajeeeaaPix
import Derived.Test.YtlibflbpajeeeaaDiv
import Derived.Test.YtlibflbpajeeeaaInv
import Derived.Test.YtlibflbpajeeeaaFor
import Derived.Test.YtlibflbpajeeeaaQuarter
namespace Go.Proofs.Ytlibflbpajeeeaa
open Go.RowKit Go.Sort

theorem rnd_eight (z : Int) : -4 ≤ 8 * rnd z 8 - z ∧ 8 * rnd z 8 - z ≤ 4 := by
  unfold rnd
  by_cases h : z < 0
  · rw [if_pos h]; omega
  · rw [if_neg h]; omega

theorem map_put (S : Array Int) (i : Nat) (v : Int) : (S.map i32v).setIfInBounds i (.int .i32 v) = (S.setIfInBounds i v).map i32v := by
  apply Array.ext_getElem?
  intro k
  simp only [Array.getElem?_setIfInBounds, Array.getElem?_map, Array.size_map]
  by_cases h : i = k
  · subst h
    by_cases h2 : i < S.size
    · simp [h2, i32v]
    · simp [h2]
  · simp [h]

/-- A block of ours that is filled from its head: the first k numbers are those of a function. -/
def Filled (f : Nat → Int) (g : Nat) (t : TypeId) (k : Nat) (wr : World) : Prop :=
  ∃ D : Array Int, D.size = 64 ∧ (∀ j, j < k → D[j]! = f j) ∧ wr.heap[g]? = some (.cells (D.map i32v) t (0, 0))

theorem Filled.set {f : Nat → Int} {g : Nat} {t : TypeId} {k : Nat} {wr : World} (h : Filled f g t k wr) (hk : k < 64) (v : Int) (hv : v = f k) : Filled f g t (k + 1) (wr.setCell ⟨g, k, none⟩ (.int .i32 v)) := by
  obtain ⟨D, hD, hf, hh⟩ := h
  refine ⟨D.setIfInBounds k v, by simpa using hD, ?_, ?_⟩
  · intro j hj
    by_cases e : j = k
    · subst e; rw [getElem!_set_same _ _ _ (by omega)]; exact hv
    · rw [getElem!_set_other _ _ _ _ e]; exact hf j (by omega)
  · rw [heap_setCell_same _ _ _ _ _ _ hh, map_put]
theorem Filled.cell {f : Nat → Int} {g : Nat} {t : TypeId} {k : Nat} {wr : World} (h : Filled f g t k wr) (j : Nat) (hj : j < 64) : ∃ z : Int, wr.cell? ⟨g, j, none⟩ = some (.int .i32 z) ∧ wr.frozen? ⟨g, j, none⟩ = false := by
  obtain ⟨D, hD, hf, hh⟩ := h
  exact ⟨D[j]!, by rw [cell_of_row _ _ _ _ _ _ hh]; exact getElem?_map_i32v D j (by omega), frozen_of_row _ _ _ _ _ hh⟩
theorem Filled.whole {f : Nat → Int} {g : Nat} {t : TypeId} {wr : World} (h : Filled f g t 64 wr) (D : Array Int) (hD : D.size = 64) (hf : ∀ j, j < 64 → D[j]! = f j) : wr.heap[g]? = some (.cells (D.map i32v) t (0, 0)) := by
  obtain ⟨E, hE, he, hh⟩ := h
  have : E = D := by
    apply Array.ext (by omega)
    intro i h1 h2
    have a := he i (by omega)
    have b := hf i (by omega)
    rw [getElem!_pos E i h1] at a
    rw [getElem!_pos D i h2] at b
    rw [a, b]
  rw [← this]
  exact hh

def Z64 : Array Value := #[.int .i32 0, .int .i32 0, .int .i32 0, .int .i32 0, .int .i32 0, .int .i32 0, .int .i32 0, .int .i32 0, .int .i32 0, .int .i32 0, .int .i32 0, .int .i32 0, .int .i32 0, .int .i32 0, .int .i32 0, .int .i32 0, .int .i32 0, .int .i32 0, .int .i32 0, .int .i32 0, .int .i32 0, .int .i32 0, .int .i32 0, .int .i32 0, .int .i32 0, .int .i32 0, .int .i32 0, .int .i32 0, .int .i32 0, .int .i32 0, .int .i32 0, .int .i32 0, .int .i32 0, .int .i32 0, .int .i32 0, .int .i32 0, .int .i32 0, .int .i32 0, .int .i32 0, .int .i32 0, .int .i32 0, .int .i32 0, .int .i32 0, .int .i32 0, .int .i32 0, .int .i32 0, .int .i32 0, .int .i32 0, .int .i32 0, .int .i32 0, .int .i32 0, .int .i32 0, .int .i32 0, .int .i32 0, .int .i32 0, .int .i32 0, .int .i32 0, .int .i32 0, .int .i32 0, .int .i32 0, .int .i32 0, .int .i32 0, .int .i32 0, .int .i32 0]
theorem Z64_size : (64 : Nat) = Z64.size := rfl
theorem Z64_one : Z64.all (·.oneCell') = true := by decide +kernel
theorem Z64_map : Z64 = zeros64.map i32v := zeros_map.symm

def NumsAt (w : World) (ad : Option Addr) (len : Nat) : Prop :=
  0 < len → ∃ b off, ad = some ⟨b, off, none⟩ ∧ b < w.heap.size ∧ ∀ j, j < len → ∃ v : Int, 0 ≤ v ∧ v < 4294967296 ∧ w.cell? ⟨b, off + j, none⟩ = some (.int .u32 v)

theorem mix_new {w : World} {ad : Option Addr} {len cap : Nat} {o : Obj} (hl : len ≤ 100) (h : NumsAt w ad len) : MixAt ((w.alloc (.cells #[.slice ad len cap, .int .i64 0] 28)).alloc o) w.heap.size ad len cap 0 := by
  refine ⟨?_, ?_, ?_, by omega, ?_⟩
  · rw [cell_of_row _ _ _ _ _ _ (heap_alloc2_old _ _ _)]; rfl
  · rw [cell_of_row _ _ _ _ _ _ (heap_alloc2_old _ _ _)]; rfl
  · exact frozen_of_row _ _ _ _ _ (heap_alloc2_old _ _ _)
  · intro h0
    obtain ⟨b', off, e, hlt, hv⟩ := h h0
    refine ⟨b', off, e, hlt, fun j hj => ?_⟩
    obtain ⟨v, h0, h1, hc⟩ := hv j hj
    refine ⟨v, h0, h1, ?_⟩
    rw [World.cell?_alloc_lt _ _ _ (by simp; omega), World.cell?_alloc_lt _ _ _ hlt]
    exact hc

set_option maxRecDepth 100000 in
set_option maxHeartbeats 4000000 in
theorem inverse_main (ad : Option Addr) (len cap : Nat) (w : World) (hl : len ≤ 100) (hnum : NumsAt w ad len) :
    Calls Try.prog 5 #[.slice ad len cap] w fun e w' => e = .returned (.bool true) ∧ Below w.heap.size w w' := by
  have hd1 : decide (2147483647 < (len : Int)) = false := by simp; omega
  have hd2 : decide (100 < (len : Int)) = false := by simp; omega
  have hl' : (len : Int) ≤ 100 := by omega
  have hi29 : (Try.prog.info? 29).map (·.size) = some 64 := by kernel_rfl
  have HI29 := Lib.hid hi29
  have HNUM := Lib.hid hnum
  clear hnum hi29
  go_enter Try.func5, Try.ntmps5
  go_wp2_with (refine wpList_store_new rfl 29 (.tmp 4) (.tmp 22) rfl (w.heap.size + 1) Z64 rfl rfl _ _ 29 (by simp) HI29.out Z64_size Z64_one ?_)
  refine (pixels_any 64 (by omega) _ w.heap.size ad len cap 0 (by simp; omega) (mix_new hl HNUM.out) (by omega)).mono ?_
  rintro e w1 ⟨v, L, p, rfl, hL, hb, hown, hm, hp, hap⟩
  have hv : ∃ g cp cur, v = .slice (some ⟨g, 0, none⟩) 64 cp ∧ w.heap.size + 2 ≤ g ∧ w1.heap[g]? = some (.cells cur 5 (0, 0)) ∧ ∀ j, j < 64 → cur[j]? = some (.int .u8 (L.getD j 0)) := by
    rcases hown.2 with ⟨_, h0⟩ | ⟨g, cp, cur, hv, hg, hh, h1, h2, h3, h4⟩
    · omega
    · refine ⟨g, cp, cur, hv, by simpa using hg, hh, fun j hj => ?_⟩
      have e1 : (L.map (Value.int .u8))[j]? = some (.int .u8 (L.getD j 0)) := by
        rw [List.getElem?_map, List.getD_eq_getElem?_getD, List.getElem?_eq_getElem (by omega)]; rfl
      rw [← h4, List.getElem?_take, if_pos (by omega)] at e1
      simpa using e1
  obtain ⟨g, cp, cur, rfl, hg, hh, hcur⟩ := hv
  have hL8 : ∀ j, j < 64 → 0 ≤ L.getD j 0 ∧ L.getD j 0 ≤ 255 := fun j hj => hb _ (by rw [List.getD_eq_getElem?_getD, List.getElem?_eq_getElem (by omega)]; exact List.getElem_mem _)
  have hbb : w1.heap[w.heap.size + 1]? = some (.cells (zeros64.map i32v) 29 (0, 0)) := by
    rw [hap.block _ (by simp) (by omega), heap_alloc2_new, Z64_map]
  have hsz : w.heap.size + 2 ≤ w1.heap.size := by have := hap.size; simp at this; omega
  have hbel : Below w.heap.size w w1 := (((Below.refl _ _).alloc (Nat.le_refl _) _).alloc (by simp) _).trans (hap.below _ (by simp; omega) (Nat.le_refl _))
  have HG := Lib.hid hg
  have HH := Lib.hid hh
  have HC := Lib.hid hcur
  have HL8 := Lib.hid hL8
  have HBB := Lib.hid hbb
  have HSZ := Lib.hid hsz
  have HBL := Lib.hid hbel
  clear hL hb hown hm hp hap hg hh hcur hL8 hbb hsz hbel
  go_wp2_with fail
  go_loopw [26] (fun i wr => ∃ k : Nat, k ≤ 64 ∧ i = .int .i64 k ∧ Filled (fun j => L.getD j 0) (w.heap.size + 1) 29 k wr ∧ wr.heap[g]? = some (.cells cur 5 (0, 0)) ∧ Below w.heap.size w wr ∧ w.heap.size + 2 ≤ wr.heap.size) (fun i _ => 64 - (intOf i).toNat)
  case atStart => exact ⟨0, Nat.zero_le _, rfl, ⟨zeros64, rfl, fun j hj => by omega, HBB.out⟩, HH.out, HBL.out, HSZ.out⟩
  case round =>
    obtain ⟨k, hk, rfl, hf, hgr, hbr, hsr⟩ := hrel
    have HF := Lib.hid hf
    have HGR := Lib.hid hgr
    have HBR := Lib.hid hbr
    have HSR := Lib.hid hsr
    clear hf hgr hbr hsr
    by_cases hlt : k < 64
    · obtain ⟨y, hy⟩ : ∃ y, y = L.getD k 0 := ⟨_, rfl⟩
      have hcx : wr.cell? ⟨g, k, none⟩ = some (.int .u8 y) := by rw [cell_of_row _ _ _ _ _ _ HGR.out, hy]; exact HC.out k hlt
      obtain ⟨hy0, hy1⟩ : 0 ≤ y ∧ y ≤ 255 := by rw [hy]; exact HL8.out k hlt
      obtain ⟨zz, hcz, hfz⟩ := HF.out.cell k hlt
      have HY := Lib.hid hy
      clear hy
      go_wp2_with fail
      go_roundw
      case rel =>
        refine ⟨k + 1, by omega, by go_num, HF.out.set hlt y HY.out, ?_, HBR.out.setCell (by simp) _, ?_⟩
        · rw [heap_setCell_other _ _ _ _ (by have := HG.out; simp; omega)]
          exact HGR.out
        · have := HSR.out
          simpa [World.setCell] using this
      case measure => simp [intOf]; omega
    · obtain rfl : k = 64 := by omega
      obtain ⟨D, hD⟩ : ∃ D : Array Int, D = ((List.range 64).map fun j => L.getD j 0).toArray := ⟨_, rfl⟩
      have hDs : D.size = 64 := by rw [hD]; simp
      have hDv : ∀ j, j < 64 → D[j]! = L.getD j 0 := fun j hj => by
        rw [getElem!_pos D j (by omega)]
        simp [hD]
      have hDb : ∀ j, j < 64 → (0 : Int) ≤ D[j]! ∧ D[j]! ≤ (255 : Int) := fun j hj => by rw [hDv j hj]; exact HL8.out j hj
      have hwh := HF.out.whole D hDs hDv
      have hFb : ∀ j, j < 64 → (-8192 : Int) ≤ (frowsA (fcolsA D))[j]! ∧ (frowsA (fcolsA D))[j]! ≤ (8191 : Int) := fun j hj => by
        have h := forward_bounds D hDs hDb (j / 8) (j % 8) (by omega) (by omega)
        rw [show 8 * (j / 8) + j % 8 = j by omega] at h
        exact h
      have hfor := fun w => forward_any D w hDs (fun j hj => by have := hDb j hj; omega)
      obtain ⟨F, hFe⟩ : ∃ F, F = frowsA (fcolsA D) := ⟨_, rfl⟩
      have hFs : F.size = 64 := by rw [hFe]; unfold frowsA fcolsA; rw [size_steps, size_steps, hDs]
      obtain ⟨c, hc⟩ : ∃ c, c = D.map i32v := ⟨_, rfl⟩
      obtain ⟨cF, hcF⟩ : ∃ cF, cF = F.map i32v := ⟨_, rfl⟩
      have hcs : c.size = 64 := by rw [hc, Array.size_map, hDs]
      have hcFs : cF.size = 64 := by rw [hcF, Array.size_map, hFs]
      rw [← hFe, ← hcF] at hfor
      rw [← hc] at hfor hwh
      rw [← hFe] at hFb
      have HFOR := Lib.hid hfor
      have HWH := Lib.hid hwh
      have HDS := Lib.hid hDs
      have HDB := Lib.hid hDb
      have HFE := Lib.hid hFe
      have HFS := Lib.hid hFs
      have HFB := Lib.hid hFb
      have HCE := Lib.hid hc
      have HCF := Lib.hid hcF
      have HCI := Lib.hid (HI29.out.trans (congrArg some hcs.symm))
      have HCFI := Lib.hid (HI29.out.trans (congrArg some hcFs.symm))
      have HCFS := Lib.hid hcFs.symm
      have HCF1 := Lib.hid (one_map hcF)
      clear hD hfor hwh hDs hDv hDb hFe hFs hFb hc hcF hcs hcFs
      go_wp2_with (refine wpList_load_row rfl 29 (.tmp 4) rfl (w.heap.size + 1) rfl 29 c (0, 0) _ HWH.out Try.underlying29 rfl HCI.out ?_)
      refine (HFOR.out _).mono ?_
      rintro e w2 ⟨rfl, hb2⟩
      have hw2 := (hb2.block (w.heap.size + 1) (by have := HSR.out; omega)).trans HWH.out
      have hs2 : w.heap.size + 2 ≤ w2.heap.size := by have := hb2.size; have := HSR.out; omega
      have hbl2 : Below w.heap.size w w2 := HBR.out.trans (hb2.mono (by have := HSR.out; omega))
      have HW2 := Lib.hid hw2
      have HS2 := Lib.hid hs2
      have HBL2 := Lib.hid hbl2
      clear hb2 hw2 hs2 hbl2
      go_wp2_with (first
        | (refine wpList_store_new rfl 29 (.tmp 7) (.tmp 37) rfl w2.heap.size cF rfl rfl w2 _ 29 rfl HCFI.out HCFS.out HCF1.out ?_)
        | (refine wpList_load_row rfl 29 (.tmp 7) rfl w2.heap.size rfl 29 cF (0, 0) _ (heap_alloc_new _ _) Try.underlying29 rfl HCFI.out ?_))
      go_loopw [39] (fun i wr => ∃ k : Nat, k ≤ 64 ∧ i = .int .i64 k ∧ Filled (fun j => rnd F[j]! 8) w2.heap.size 29 k wr ∧ wr.heap[w.heap.size + 1]? = some (.cells c 29 (0, 0)) ∧ Below w.heap.size w wr ∧ w2.heap.size + 1 ≤ wr.heap.size) (fun i _ => 64 - (intOf i).toNat)
      case atStart =>
        refine ⟨0, Nat.zero_le _, rfl, ⟨F, HFS.out, fun j hj => by omega, ?_⟩, ?_, HBL2.out.alloc (by have := HS2.out; omega) _, by simp⟩
        · rw [heap_alloc_new, HCF.out]
        · rw [_root_.Go.heap_alloc_old _ _ (by have := HS2.out; omega)]; exact HW2.out
      case round =>
        obtain ⟨k, hk, rfl, hf, hgr, hbr, hsr⟩ := hrel
        have HF2 := Lib.hid hf
        have HGR2 := Lib.hid hgr
        have HBR2 := Lib.hid hbr
        have HSR2 := Lib.hid hsr
        clear hf hgr hbr hsr
        by_cases hlt : k < 64
        · have hix := index29 cF k hlt (.int .i32 F[k]!) (by rw [HCF.out]; exact getElem?_map_i32v F k (by rw [HFS.out]; exact hlt))
          obtain ⟨y, hy⟩ : ∃ y, y = F[k]! := ⟨_, rfl⟩
          rw [← hy] at hix
          obtain ⟨hy0, hy1⟩ : -8192 ≤ y ∧ y ≤ 8191 := by rw [hy]; exact HFB.out k hlt
          obtain ⟨zz, hcz, hfz⟩ := HF2.out.cell k hlt
          have hr := rnd_eight y
          have hr0 : -2147483648 ≤ rnd y 8 := by omega
          have hr1 : rnd y 8 ≤ 2147483647 := by omega
          have HY := Lib.hid hy
          clear hy hr
          go_wp2_with fail
          refine (rounded_any y 8 _ (by omega) (by omega) (by omega) (by omega)).mono ?_
          rintro e w' ⟨rfl, rfl⟩
          go_wp2_with fail
          go_roundw
          case rel =>
            refine ⟨k + 1, by omega, by go_num, HF2.out.set hlt _ (by rw [HY.out]), ?_, HBR2.out.setCell (by have := HS2.out; simp; omega) _, ?_⟩
            · rw [heap_setCell_other _ _ _ _ (by have := HS2.out; simp; omega)]
              exact HGR2.out
            · have := HSR2.out
              simpa [World.setCell] using this
          case measure => simp [intOf]; omega
        · obtain rfl : k = 64 := by omega
          obtain ⟨Q, hQ⟩ : ∃ Q : Array Int, Q = ((List.range 64).map fun j => rnd F[j]! 8).toArray := ⟨_, rfl⟩
          have hQs : Q.size = 64 := by rw [hQ]; simp
          have hQv : ∀ j, j < 64 → Q[j]! = rnd F[j]! 8 := fun j hj => by
            rw [getElem!_pos Q j (by omega)]
            simp [hQ]
          have hQd : ∀ j, j < 64 → (-4 : Int) ≤ 8 * Q[j]! - F[j]! ∧ 8 * Q[j]! - F[j]! ≤ (4 : Int) := fun j hj => by rw [hQv j hj]; exact rnd_eight _
          have hQb : ∀ j, j < 64 → (-1048576 : Int) ≤ Q[j]! ∧ Q[j]! ≤ (1048576 : Int) := fun j hj => by
            have h1 := hQd j hj
            have h2 := HFB.out j hj
            omega
          have hwq := HF2.out.whole Q hQs hQv
          have hlaw := inverse_law D Q HDS.out HDB.out hQs (fun j hj => by rw [← HFE.out]; exact hQd j hj)
          have hinv := fun w => inverse_any Q w hQs hQb
          obtain ⟨O, hOe⟩ : ∃ O, O = icolsA (irowsA Q) := ⟨_, rfl⟩
          have hOs : O.size = 64 := by rw [hOe]; unfold icolsA irowsA; rw [size_steps, size_steps, hQs]
          obtain ⟨cQ, hcQ⟩ : ∃ cQ, cQ = Q.map i32v := ⟨_, rfl⟩
          obtain ⟨cO, hcO⟩ : ∃ cO, cO = O.map i32v := ⟨_, rfl⟩
          have hcQs : cQ.size = 64 := by rw [hcQ, Array.size_map, hQs]
          rw [← hOe, ← hcO] at hinv
          rw [← hcQ] at hinv hwq
          rw [← hOe] at hlaw
          have HINV := Lib.hid hinv
          have HLAW := Lib.hid hlaw
          have HWQ := Lib.hid hwq
          have HOS := Lib.hid hOs
          have HCO := Lib.hid hcO
          have HCQI := Lib.hid (HI29.out.trans (congrArg some hcQs.symm))
          clear hQ hQs hQv hQd hQb hwq hlaw hinv hOe hOs hcQ hcO hcQs
          go_wp2_with (refine wpList_load_row rfl 29 (.tmp 7) rfl w2.heap.size rfl 29 cQ (0, 0) _ HWQ.out Try.underlying29 rfl HCQI.out ?_)
          refine (HINV.out _).mono ?_
          rintro e w3 ⟨rfl, hb3⟩
          have hw3 := (hb3.block (w.heap.size + 1) (by have := HSR2.out; have := HS2.out; omega)).trans HGR2.out
          have hbl3 : Below w.heap.size w w3 := HBR2.out.trans (hb3.mono (by have := HSR2.out; have := HS2.out; omega))
          have HW3 := Lib.hid hw3
          have HBL3 := Lib.hid hbl3
          clear hb3 hw3 hbl3
          go_wp2_with fail
          go_loop [52] (fun i => ∃ k : Nat, k ≤ 64 ∧ i = .int .i64 k) (fun i => 64 - (intOf i).toNat)
          case atStart => exact ⟨0, Nat.zero_le _, rfl⟩
          case round =>
            obtain ⟨k, hk, rfl⟩ := hrel
            by_cases hlt : k < 64
            · have hix := index29 cO k hlt (.int .i32 O[k]!) (by rw [HCO.out]; exact getElem?_map_i32v O k (by rw [HOS.out]; exact hlt))
              have hcx : w3.cell? ⟨w.heap.size + 1, k, none⟩ = some (.int .i32 D[k]!) := by rw [cell_of_row _ _ _ _ _ _ HW3.out, HCE.out]; exact getElem?_map_i32v D k (by rw [HDS.out]; exact hlt)
              have hl2 := HLAW.out k hlt
              have hdb := HDB.out k hlt
              obtain ⟨y, hy⟩ : ∃ y, y = O[k]! := ⟨_, rfl⟩
              obtain ⟨x, hx⟩ : ∃ x, x = D[k]! := ⟨_, rfl⟩
              rw [← hy] at hix hl2
              rw [← hx] at hcx hl2 hdb
              clear hx hy
              obtain ⟨hl20, hl21⟩ := hl2
              obtain ⟨hdb0, hdb1⟩ := hdb
              have t0 : decide (y + 128 - x < -5) = false := by simp; omega
              have t1 : decide (5 < y + 128 - x) = false := by simp; omega
              go_wp2_with fail
              go_round
              case rel => exact ⟨k + 1, by omega, by go_num⟩
              case measure => simp [intOf]; omega
            · obtain rfl : k = 64 := by omega
              go_wp2_with fail
              go_ret
              exact ⟨rfl, HBL3.out⟩

end Go.Proofs.Ytlibflbpajeeeaa
