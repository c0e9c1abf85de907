/- The walk of FnDivide where nothing is turned away at once: the law returns true. Conditions: a within 2^20, b from 1 to 65535, at most 100 numbers that lie in memory. -/
import Derived.Test.YtlibflbpajeeeaaQuarter
import Derived.Test.YtlibflbpajeeeaaMix
import Derived.Test.YtlibflbpajeeeaaDiv
import Derived.Test.YtlibflbpajeeeaaScalePl
import Derived.Deep.RegionWith
namespace Go.Proofs.Ytlibflbpajeeeaa
open Go.RowKit Go.Sort

theorem rnd_bounds (a b : Int) (ha0 : -1048576 ≤ a) (ha1 : a ≤ 1048576) (hb0 : 1 ≤ b) (hb1 : b ≤ 1048576) : -2147483648 ≤ rnd a b ∧ rnd a b ≤ 2147483647 := by
  unfold rnd
  by_cases h : a < 0
  · rw [if_pos h]
    have := quot_bounds (-a + b / 2) b (by omega) hb0
    omega
  · rw [if_neg h]
    have := quot_bounds (a + b / 2) b (by omega) hb0
    omega

/-- What the filling loops hold: the mixer n steps on, the four blocks' numbers from 0 to 255. -/
def FillRel (w : World) (ad : Option Addr) (len cap n : Nat) (wr : World) : Prop :=
  ∃ S : Array Int, S.size = 256 ∧ (∀ j, j < 256 → (0 : Int) ≤ S[j]! ∧ S[j]! ≤ (255 : Int)) ∧ MixAt wr w.heap.size ad len cap n ∧ wr.heap[w.heap.size + 1]? = some (.cells (S.map i32v) 30 (0, 0)) ∧ wr.heap.size = w.heap.size + 2 ∧ Below w.heap.size w wr

theorem MixAt.drew {w : World} {B : Nat} {ad : Option Addr} {len cap p : Nat} (h : MixAt w B ad len cap p) : MixAt w.drew B ad len cap p :=
  ⟨h.sl, h.at_, h.free, h.few, h.num⟩

theorem map_set (S : Array Int) (i : Nat) (v : Int) : (S.map i32v).setIfInBounds i (.int .i32 v) = (S.setIfInBounds i v).map i32v := by
  apply Array.ext_getElem?
  intro k
  simp only [Array.getElem?_setIfInBounds, Array.getElem?_map, Array.size_map]
  by_cases h : i = k
  · subst h
    by_cases h2 : i < S.size
    · simp [h2, i32v]
    · simp [h2]
  · simp [h]

theorem wrap_small (v : Int) (h0 : 0 ≤ v) (h1 : v < 256) : IntKind.i32.wrap v = v := by
  rw [IntKind.wrap_i32]
  omega

theorem fill_cell {w wr w1 : World} {S : Array Int} (hS : S.size = 256) (hh : wr.heap[w.heap.size + 1]? = some (.cells (S.map i32v) 30 (0, 0))) (ho : OnlyB w.heap.size wr.drew w1) (i : Nat) (hi : i < 256) :
    ∃ z : Int, w1.cell? ⟨w.heap.size + 1, i, none⟩ = some (.int .i32 z) ∧ w1.frozen? ⟨w.heap.size + 1, i, none⟩ = false := by
  have hh1 : w1.heap[w.heap.size + 1]? = some (.cells (S.map i32v) 30 (0, 0)) := (ho.block _ (by omega)).trans hh
  exact ⟨S[i]!, by rw [cell_of_row _ _ _ _ _ _ hh1]; exact getElem?_map_i32v S i (by omega), frozen_of_row _ _ _ _ _ hh1⟩

theorem fill_step {w wr w1 : World} {ad : Option Addr} {len cap n : Nat} {S : Array Int} (hS : S.size = 256) (hb : ∀ j, j < 256 → (0 : Int) ≤ S[j]! ∧ S[j]! ≤ (255 : Int))
    (hh : wr.heap[w.heap.size + 1]? = some (.cells (S.map i32v) 30 (0, 0))) (hz : wr.heap.size = w.heap.size + 2) (hbl : Below w.heap.size w wr)
    (hm : MixAt w1 w.heap.size ad len cap (n + 1)) (ho : OnlyB w.heap.size wr.drew w1) (i : Nat) (hi : i < 256) (v : Int) (h0 : 0 ≤ v) (h1 : v < 256) :
    FillRel w ad len cap (n + 1) (w1.setCell ⟨w.heap.size + 1, i, none⟩ (.int .i32 v)) := by
  have hh1 : w1.heap[w.heap.size + 1]? = some (.cells (S.map i32v) 30 (0, 0)) := (ho.block _ (by omega)).trans hh
  have hbs : Below (w.heap.size + 1) w1 (w1.setCell ⟨w.heap.size + 1, i, none⟩ (.int .i32 v)) := (Below.refl _ _).setCell (by simp) _
  refine ⟨S.setIfInBounds i v, by simpa using hS, ?_, hm.kept hbs (by omega), ?_, ?_, ?_⟩
  · intro j hj
    by_cases e : i = j
    · subst e; rw [getElem!_set_same _ _ _ (by omega)]; omega
    · rw [getElem!_set_other _ _ _ _ (fun x => e x.symm)]; exact hb j hj
  · rw [heap_setCell_same _ _ _ _ _ _ hh1, map_set]
  · have := hbs.size
    have h2 : w1.heap.size = wr.heap.size := ho.size
    simp only [World.setCell, Array.size_modify]
    omega
  · exact (hbl.trans ((Below.refl _ _).drew.trans ho.below)).trans (hbs.mono (by omega))

/-- What the last loop holds: the four blocks lie where they lay. -/
def LastRel (w : World) (c : Array Value) (wr : World) : Prop := wr.heap[w.heap.size + 1]? = some (.cells c 30 (0, 0)) ∧ Below w.heap.size w wr ∧ w.heap.size + 1 < wr.heap.size

theorem last_facts {w wr : World} {c r : Array Value} {S : Array Int} (h : LastRel w c wr) (hS : S.size = 256) (hb : ∀ j, j < 256 → (0 : Int) ≤ S[j]! ∧ S[j]! ≤ (255 : Int)) (hc : c = S.map i32v) (hr : r = (scaleN S 64 zeros64).map i32v)
    (k : Nat) (hk : k < 64) : ∃ (l : List Value) (y0 y1 y2 y3 : Int), wr.rangeAt (w.heap.size + 1) (fromBlock k * 64) l ∧ l.length = 64 ∧ l.toArray.all (·.oneCell') = true ∧
      r[k]? = some (.int .i32 ((y0 + y1 + y2 + y3 + 2) / 4)) ∧
      (∀ W : World, (W.alloc (.cells l.toArray 29)).cell? ⟨W.heap.size, fromPlace k, none⟩ = some (.int .i32 y0)) ∧ (∀ W : World, (W.alloc (.cells l.toArray 29)).cell? ⟨W.heap.size, fromPlace k + 1, none⟩ = some (.int .i32 y1)) ∧
      (∀ W : World, (W.alloc (.cells l.toArray 29)).cell? ⟨W.heap.size, fromPlace k + 8, none⟩ = some (.int .i32 y2)) ∧ (∀ W : World, (W.alloc (.cells l.toArray 29)).cell? ⟨W.heap.size, fromPlace k + 9, none⟩ = some (.int .i32 y3)) ∧
      (0 ≤ y0 ∧ y0 ≤ 255) ∧ (0 ≤ y1 ∧ y1 ≤ 255) ∧ (0 ≤ y2 ∧ y2 ≤ 255) ∧ (0 ≤ y3 ∧ y3 ≤ 255) := by
  have hB : fromBlock k < 4 := by unfold fromBlock; omega
  have hP : fromPlace k ≤ 54 := by unfold fromPlace; omega
  have hcs : c.size = 256 := by rw [hc, Array.size_map, hS]
  have hl := extract_list c (fromBlock k * 64) hcs (by omega)
  have hcell : ∀ (W : World) (j : Nat), j < 64 → (W.alloc (.cells (c.extract (fromBlock k * 64) (fromBlock k * 64 + 64)).toList.toArray 29)).cell? ⟨W.heap.size, j, none⟩ = some (.int .i32 S[fromBlock k * 64 + j]!) := by
    intro W j hj
    rw [cell_of_row _ _ _ _ 29 (0, 0) (heap_alloc_new W _), Array.toArray_toList, Array.getElem?_extract, if_pos (by omega), hc]
    exact getElem?_map_i32v S _ (by omega)
  refine ⟨(c.extract (fromBlock k * 64) (fromBlock k * 64 + 64)).toList, S[fromBlock k * 64 + fromPlace k]!, S[fromBlock k * 64 + fromPlace k + 1]!, S[fromBlock k * 64 + fromPlace k + 8]!, S[fromBlock k * 64 + fromPlace k + 9]!, ?_, hl, ?_, ?_, ?_, ?_, ?_, ?_, hb _ (by omega), hb _ (by omega), hb _ (by omega), hb _ (by omega)⟩
  · intro j v hv
    rw [cell_of_row _ _ _ c 30 (0, 0) h.1]
    rw [Array.getElem?_toList, Array.getElem?_extract] at hv
    split at hv
    · exact hv
    · cases hv
  · exact all_oneCell_toArray (fun v hv => one_of_map hc v (by simp at hv; exact List.mem_of_mem_drop (List.mem_of_mem_take hv)))
  · rw [hr, getElem?_map_i32v _ _ (by rw [size_scaleN]; exact hk), quarter_law S zeros64 rfl k hk]
  · intro W; exact hcell W _ (by omega)
  · intro W; exact hcell W _ (by omega)
  · intro W; exact hcell W _ (by omega)
  · intro W; exact hcell W _ (by omega)

set_option maxRecDepth 100000 in
set_option maxHeartbeats 2000000 in
theorem divide_main (a b : Int) (ad : Option Addr) (len cap : Nat) (w : World) (ha0 : -1048576 ≤ a) (ha1 : a ≤ 1048576) (hb0 : 1 ≤ b) (hb1 : b ≤ 65535) (hl : len ≤ 100)
    (hnum : 0 < len → ∃ b off, ad = some ⟨b, off, none⟩ ∧ b < w.heap.size ∧ ∀ j, j < len → ∃ v : Int, 0 ≤ v ∧ v < 4294967296 ∧ w.cell? ⟨b, off + j, none⟩ = some (.int .u32 v)) :
    Calls Try.prog 3 #[.int .i32 a, .int .u16 b, .slice ad len cap] w fun e w' => e = .returned (.bool true) ∧ Below w.heap.size w w' := by
  have hr := rnd_bounds a b ha0 ha1 hb0 (by omega)
  obtain ⟨hr0, hr1⟩ := hr
  have hz0 : ∀ w, (zeroValue 30).run Try.prog w = .ok (.agg (Array.replicate 256 (.int .i32 0))) w :=
    (zero_of_info (P := Try.prog) (t := 30) (v := .agg (Array.replicate 256 (.int .i32 0))) (n := 256) (by kernel_rfl)).1
  have hbuild : ∀ w, (Instr.build 30 #[]).run Try.prog w = .ok (.agg (Array.replicate 256 (.int .i32 0))) w := fun w => by kernel_rfl
  have hi30 : (Try.prog.info? 30).map (·.size) = some 256 := by kernel_rfl
  obtain ⟨zs, hzs⟩ : ∃ zs : Array Value, zs = Array.replicate 256 (.int .i32 0) := ⟨_, rfl⟩
  rw [← hzs] at hz0 hbuild
  have HZS := Lib.hid hzs
  have hzl : zs.size = 256 := by rw [hzs]; simp
  have HI30 := Lib.hid (hi30.trans (congrArg some hzl.symm))
  have HZ1 := Lib.hid (show zs.all (·.oneCell') = true by
    rw [hzs, Array.all_eq_true_iff_forall_mem]
    intro v hv
    rw [Array.mem_replicate] at hv
    rw [hv.2]
    rfl)
  clear hzs hi30 hzl
  have hbz : (b == 0) = false := by simp; omega
  have hl' : (len : Int) ≤ 100 := by omega
  have hd1 : decide (2147483647 < (len : Int)) = false := by simp; omega
  have hd2 : decide (100 < (len : Int)) = false := by simp; omega
  have hd3 : decide (1048576 < a) = false := by simp; omega
  have hd4 : decide (a < -1048576) = false := by simp; omega
  have HNUM := Lib.hid hnum
  clear hnum
  go_enter Try.func3, Try.ntmps3
  go_wp2_with fail
  refine (divide_any a b _ ha0 ha1 hb0 (by omega)).mono ?_
  rintro e w' ⟨rfl, rfl⟩
  go_wp2_with fail
  refine (rounded_any a b _ (by omega) (by omega) hb0 (by omega)).mono ?_
  rintro e w' ⟨rfl, rfl⟩
  go_wp2_with (refine wpList_store_new rfl 30 (.tmp 8) (.tmp 47) rfl (w.heap.size + 1) zs rfl rfl _ zs 30 (by simp) HI30.out rfl HZ1.out ?_)
  go_loopw [48] (fun i wr => ∃ k : Nat, k ≤ 4 ∧ i = .int .i64 k ∧ FillRel w ad len cap (64 * k) wr) (fun i _ => 4 - (intOf i).toNat)
  case atStart =>
    refine ⟨0, Nat.zero_le _, rfl, Array.replicate 256 0, by simp, ?_, ?_, ?_, by simp, ((Below.refl _ _).alloc (Nat.le_refl _) _).alloc (by simp) _⟩
    · intro j hj
      rw [getElem!_pos _ j (by simp; omega)]
      simp
    · refine ⟨?_, ?_, ?_, by omega, ?_⟩
      · rw [cell_of_row _ _ _ _ _ _ (heap_alloc2_old _ _ _)]; rfl
      · rw [cell_of_row _ _ _ _ _ _ (heap_alloc2_old _ _ _)]; rfl
      · exact frozen_of_row _ _ _ _ _ (heap_alloc2_old _ _ _)
      · intro h
        obtain ⟨b', off, e, hlt, hv⟩ := HNUM.out h
        refine ⟨b', off, e, hlt, fun j hj => ?_⟩
        obtain ⟨v, h0, h1, hc⟩ := hv j hj
        refine ⟨v, h0, h1, ?_⟩
        rw [World.cell?_alloc_lt _ _ _ (by simp; omega), World.cell?_alloc_lt _ _ _ hlt]
        exact hc
    · rw [heap_alloc2_new, HZS.out]
      simp [i32v]
  case round =>
    obtain ⟨k, hk, rfl, hr⟩ := hrel
    have HR := Lib.hid hr
    clear hr
    by_cases hlt : k < 4
    · obtain ⟨wo, rfl⟩ : ∃ wo : World, wo = wr := ⟨_, rfl⟩
      have hdk : decide ((k : Int) < 4) = true := by simp; omega
      go_wp2_with fail
      go_loopw [51] (fun i wr => ∃ j : Nat, j ≤ 64 ∧ i = .int .i64 j ∧ FillRel w ad len cap (64 * k + j) wr) (fun i _ => 64 - (intOf i).toNat)
      case atStart => exact ⟨0, Nat.zero_le _, rfl, HR.out⟩
      case round =>
        obtain ⟨j, hj, rfl, hr2⟩ := hrel
        by_cases hltj : j < 64
        · obtain ⟨S, hS, hb, hm, hh, hz, hbl⟩ := hr2
          have HS := Lib.hid hS
          have HB := Lib.hid hb
          have HM := Lib.hid hm
          have HH := Lib.hid hh
          have HZ := Lib.hid hz
          have HBL := Lib.hid hbl
          clear hS hb hm hh hz hbl
          go_wp2_with fail
          go_region_with (go_at_call 8; refine (below_any 256 (by omega) (by omega) _ _ ad len cap (64 * k + j) HM.out.drew (by omega)).mono ?_; rintro e w1 ⟨v, hv0, hv1, rfl, hm1, ho1⟩; have HM1 := Lib.hid hm1; have HO1 := Lib.hid ho1; obtain ⟨z, hc1, hf1⟩ := fill_cell HS.out HH.out HO1.out (k * 64 + j) (by omega); have hwv := wrap_small v hv0 hv1; clear hm1 ho1)
          all_goals
            go_wp2_with fail
            go_roundw
            case rel =>
              have hs := fill_step HS.out HB.out HH.out HZ.out HBL.out HM1.out HO1.out (k * 64 + j) (by omega) v hv0 hv1
              exact ⟨j + 1, by omega, by go_num, hs⟩
            case measure => simp [intOf]; omega
        · obtain rfl : j = 64 := by omega
          have HR2 := Lib.hid hr2
          clear hr2
          go_wp2_with fail
          go_roundw
          case rel => exact ⟨k + 1, by omega, by go_num, HR2.out⟩
          case measure => simp [intOf]; omega
    · obtain rfl : k = 4 := by omega
      obtain ⟨S, hS, hb, hm, hh, hz, hbl⟩ := HR.out
      have hq := fun w => quarter_any S w hS (fun j hj => by have := hb j hj; omega)
      obtain ⟨c, hc⟩ : ∃ c, c = S.map i32v := ⟨_, rfl⟩
      have hcs : c.size = 256 := by rw [hc, Array.size_map, hS]
      obtain ⟨r, hr⟩ : ∃ r, r = (scaleN S 64 zeros64).map i32v := ⟨_, rfl⟩
      rw [← hr] at hq
      rw [← hc] at hq hh
      have HS := Lib.hid hS
      have HB := Lib.hid hb
      have HH := Lib.hid hh
      have HZ := Lib.hid hz
      have HBL := Lib.hid hbl
      have HQ := Lib.hid hq
      have HC := Lib.hid hc
      have HCR := Lib.hid hr
      have HCI := Lib.hid (show (Try.prog.info? 30).map (·.size) = some c.size by rw [hcs]; kernel_rfl)
      clear hS hb hm hh hz hbl hq hc hr hcs
      go_wp2_with (refine wpList_load_row rfl 30 (.tmp 8) rfl (w.heap.size + 1) rfl 30 c (0, 0) _ HH.out Try.underlying30 rfl HCI.out ?_)
      refine (HQ.out _).mono ?_
      rintro e w1 ⟨rfl, hb1⟩
      have HB1 := Lib.hid hb1
      clear hb1
      go_wp2_with fail
      go_loopw [65] (fun i wr => ∃ k : Nat, k ≤ 64 ∧ i = .int .i64 k ∧ LastRel w c wr) (fun i _ => 64 - (intOf i).toNat)
      case atStart =>
        have h1 := HZ.out
        refine ⟨0, Nat.zero_le _, rfl, (HB1.out.block _ (by omega)).trans HH.out, HBL.out.trans (HB1.out.mono (by omega)), ?_⟩
        have := HB1.out.size
        omega
      case round =>
        obtain ⟨k, hk, rfl, hr⟩ := hrel
        have HR := Lib.hid hr
        clear hr
        by_cases hlt : k < 64
        · obtain ⟨l, y0, y1, y2, y3, hrg, hl, hone, hx, hy0, hy1, hy2, hy3, hb0, hb1, hb2, hb3⟩ := last_facts HR.out HS.out HB.out HC.out HCR.out k hlt
          have hix := index29 r k hlt _ hx
          have HRG := Lib.hid (show wr.rangeAt (w.heap.size + 1) ((k / 32 * 2 + k % 8 / 4) * 64) l from hrg)
          have z0 : (wr.alloc (.cells l.toArray 29)).cell? { block := wr.heap.size, off := k / 8 % 4 * 16 + k % 4 * 2 } = some (.int .i32 y0) := hy0 wr
          have z1 : (wr.alloc (.cells l.toArray 29)).cell? { block := wr.heap.size, off := k / 8 % 4 * 16 + k % 4 * 2 + 1 } = some (.int .i32 y1) := hy1 wr
          have z2 : (wr.alloc (.cells l.toArray 29)).cell? { block := wr.heap.size, off := k / 8 % 4 * 16 + k % 4 * 2 + 8 } = some (.int .i32 y2) := hy2 wr
          have z3 : (wr.alloc (.cells l.toArray 29)).cell? { block := wr.heap.size, off := k / 8 % 4 * 16 + k % 4 * 2 + 9 } = some (.int .i32 y3) := hy3 wr
          clear hy0 hy1 hy2 hy3
          have HLI := Lib.hid (show (Try.prog.info? 29).map (·.size) = some l.length by rw [hl]; kernel_rfl)
          have HLI2 := Lib.hid (show (Try.prog.info? 29).map (·.size) = some l.toArray.size by rw [List.size_toArray, hl]; kernel_rfl)
          have HLS := Lib.hid (show (64 : Nat) = l.toArray.size by rw [List.size_toArray, hl])
          have HONE := Lib.hid hone
          clear hrg hl hone hx
          obtain ⟨hb00, hb01⟩ := hb0
          obtain ⟨hb10, hb11⟩ := hb1
          obtain ⟨hb20, hb21⟩ := hb2
          obtain ⟨hb30, hb31⟩ := hb3
          have i1 : (k : Int) / 8 % 4 * 16 + (k : Int) % 4 * 2 + 1 < 64 := by omega
          have i8 : (k : Int) / 8 % 4 * 16 + (k : Int) % 4 * 2 + 8 < 64 := by omega
          have i9 : (k : Int) / 8 % 4 * 16 + (k : Int) % 4 * 2 + 9 < 64 := by omega
          have n0 : (0 : Int) ≤ (k : Int) / 8 % 4 * 16 + (k : Int) % 4 * 2 := by omega
          have n1 : (0 : Int) ≤ (k : Int) / 8 % 4 * 16 + (k : Int) % 4 * 2 + 1 := by omega
          have n8 : (0 : Int) ≤ (k : Int) / 8 % 4 * 16 + (k : Int) % 4 * 2 + 8 := by omega
          have n9 : (0 : Int) ≤ (k : Int) / 8 % 4 * 16 + (k : Int) % 4 * 2 + 9 := by omega
          have t0 : ((k : Int) / 8 % 4 * 16 + (k : Int) % 4 * 2).toNat = k / 8 % 4 * 16 + k % 4 * 2 := by omega
          have t1 : ((k : Int) / 8 % 4 * 16 + (k : Int) % 4 * 2 + 1).toNat = k / 8 % 4 * 16 + k % 4 * 2 + 1 := by omega
          have t8 : ((k : Int) / 8 % 4 * 16 + (k : Int) % 4 * 2 + 8).toNat = k / 8 % 4 * 16 + k % 4 * 2 + 8 := by omega
          have t9 : ((k : Int) / 8 % 4 * 16 + (k : Int) % 4 * 2 + 9).toNat = k / 8 % 4 * 16 + k % 4 * 2 + 9 := by omega
          go_wp2_with (first
            | (refine wpList_load_mid rfl 29 (.tmp 76) rfl (w.heap.size + 1) ((k / 32 * 2 + k % 8 / 4) * 64) rfl l _ HRG.out Try.underlying29 rfl HLI.out ?_)
            | (refine wpList_store_new rfl 29 (.tmp 13) (.tmp 77) rfl wr.heap.size l.toArray rfl rfl wr _ 29 rfl HLI2.out HLS.out HONE.out ?_))
          go_quiet (fail)
          go_wp2_with fail
          go_roundw
          case rel =>
            refine ⟨k + 1, by omega, by go_num, ?_, ?_, ?_⟩
            · show (wr.alloc (.cells l.toArray 29)).heap[w.heap.size + 1]? = _
              rw [_root_.Go.heap_alloc_old _ _ HR.out.2.2]
              exact HR.out.1
            · exact (HR.out.2.1.alloc (by have := HR.out.2.2; omega) _).trans (Below_drewN _ _ _)
            · show w.heap.size + 1 < (wr.alloc (.cells l.toArray 29)).heap.size
              have := HR.out.2.2
              simp
              omega
          case measure => simp [intOf]; omega
        · obtain rfl : k = 64 := by omega
          go_wp2_with fail
          go_ret
          exact ⟨rfl, HR.out.2.1⟩
end Go.Proofs.Ytlibflbpajeeeaa
