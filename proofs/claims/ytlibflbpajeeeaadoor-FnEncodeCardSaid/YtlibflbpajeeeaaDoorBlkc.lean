/- The contract of the reference's block: a block's numbers, transformed, divided, written. -/
import Derived.Test.YtlibflbpajeeeaaDoorBlkPl
import Derived.StillTailTactics
import Derived.IntWalk
import Derived.Deep.QuietTactic
import Derived.BigQuiet
namespace Go.Proofs.YtlibflbpajeeeaaDoor
open Go.RowKit Go.Sort

/-- What the loop over the block's other numbers holds behind k rounds. -/
def Bk2Rel (w1 : World) (fb T LB PB ZB ov A O F : Nat) (v : Value) (Q : Nat → Nat → Int) (l c f : Nat → Int) (q : Nat) (s1 : St) (r : Value) (k : Nat) (wr : World) : Prop :=
  ∃ (v' : Value), r = .int .i64 ((acs (2 * q + 1) f s1 k).2 : Nat) ∧ OutAt wr O v' (acs (2 * q + 1) f s1 k).1 ∧ Keeps [O] v v' w1 wr ∧ Reads3 wr fb T LB PB ZB ov A O F v' Q l c
/-- What the loop over sixteen noughts holds behind j rounds. -/
def Zr2Rel (w1 : World) (fb T LB PB ZB ov A O F : Nat) (v : Value) (Q : Nat → Nat → Int) (l c : Nat → Int) (q : Nat) (a : St × Nat) (r : Value) (wr : World) : Prop :=
  ∃ (v' : Value) (j m : Nat), r = .int .i64 (m : Nat) ∧ m + 16 * j = a.2 ∧ OutAt wr O v' (zrl (2 * q + 1) a.1 j) ∧ Keeps [O] v v' w1 wr ∧ Reads3 wr fb T LB PB ZB ov A O F v' Q l c

/-- The quantized numbers by the reference's rounding. -/
structure Rnds (Q : Nat → Nat → Int) (q : Nat) (last : Int) (c f : Nat → Int) : Prop where
  cb : ∀ j, j < 64 → (-8192 : Int) ≤ c j ∧ c j ≤ (8191 : Int)
  qs : ∀ j, j < 64 → 1 ≤ Q q j ∧ Q q j ≤ 255
  div : ∀ j, j < 64 → ∀ u, Calls Tryd.prog 26 #[.int .i64 (c j), .int .i64 (8 * Q q j)] u fun e w' => e = .returned (.int .i64 (f j)) ∧ w' = u
  dc : (f 0 - last).natAbs < 2048
  last : last.natAbs ≤ 4096
  ac : ∀ j, 1 ≤ j → j < 64 → (f j).natAbs < 1024

def BcPost (fb T LB PB ZB ov A O : Nat) (v : Value) (Q : Nat → Nat → Int) (l : Nat → Int) (w1 : World) (s : St) (c q : Nat) (f : Nat → Int) (e : Ending) (w' : World) : Prop :=
  e = .returned (.tuple #[]) ∧ ∃ v', OutAt w' O v' (blockOut s q (l c) f) ∧ BlkMem w' fb T LB PB ZB ov A O v' Q (upd l c (f 0)) ∧ Keeps [O, LB] v v' w1 w'

set_option maxRecDepth 100000 in
set_option maxHeartbeats 4000000 in
theorem blkc_any (w : World) (fb T LB PB ZB ov A O : Nat) (v : Value) (Q : Nat → Nat → Int) (l : Nat → Int) (s : St) (c q : Nat) (d : Array Int) (h : OutAt w O v s) (hm : BlkMem w fb T LB PB ZB ov A O v Q l) (hl : s.out.length ≤ 70000000) (hc : c < 3) (hq : q < 2)
    (hb : ∀ k, k < 64 → (0 : Int) ≤ d[k]! ∧ d[k]! ≤ (255 : Int)) (hfit : BlockFits d (Q q) (l c)) :
    Calls Tryd.prog 25 #[.int .i64 c, .int .i64 q, .agg (d.map i32v), .pointer (some ⟨fb, 0, none⟩), .pointer (some ⟨T, 0, none⟩), .pointer (some ⟨LB, 0, none⟩), .pointer (some ⟨PB, 0, none⟩), .pointer (some ⟨ZB, 0, none⟩)] w
      (BcPost fb T LB PB ZB ov A O v Q l w s c q (quantd (Q q) d)) := by
  obtain ⟨f, hf⟩ : ∃ f, f = quantd (Q q) d := ⟨_, rfl⟩
  obtain ⟨cc, hcc⟩ : ∃ cc : Nat → Int, cc = fun j => (fwd d)[zzAt j]! := ⟨_, rfl⟩
  have hR : Rnds Q q (l c) cc f := by
    rw [hf, hcc]
    exact ⟨fun j hj => hfit.bound (zzAt j) (zz_lt j hj), hfit.q, fun j hj u => rounded_same _ _ u (by have := hfit.bound (zzAt j) (zz_lt j hj); omega) (by have := hfit.bound (zzAt j) (zz_lt j hj); omega) (by have := hfit.q j hj; omega) (by have := hfit.q j hj; omega), hfit.dc, hfit.last, hfit.ac⟩
  have hfw : ∀ u, Calls Tryd.prog 13 #[.agg (d.map i32v)] u fun e u' => e = .returned (.agg ((fwd d).map i32v)) ∧ Below u.heap.size u u' := fun u => forward_any d u hfit.size (fun j hj => by have := hb j hj; omega)
  obtain ⟨cd, hcd⟩ : ∃ cd, cd = d.map i32v := ⟨_, rfl⟩
  obtain ⟨cf, hcf⟩ : ∃ cf, cf = (fwd d).map i32v := ⟨_, rfl⟩
  have hcdz : cd.size = 64 := by rw [hcd, Array.size_map, hfit.size]
  have hcfz : cf.size = 64 := by rw [hcf, Array.size_map, fwd_size d hfit.size]
  have hcell : ∀ (W : World), ∀ j, j < 64 → (W.alloc (.cells cf 79)).cell? ⟨W.heap.size, zzAt j, none⟩ = some (.int .i32 (cc j)) := fun W j hj => by
    rw [cell_of_row _ _ _ _ 79 (0, 0) (heap_alloc_new _ _), hcf, hcc]
    exact getElem?_map_i32v (fwd d) (zzAt j) (by rw [fwd_size d hfit.size]; exact zz_lt j hj)
  rw [← hf]
  rw [← hcd]
  rw [← hcd, ← hcf] at hfw
  have hz := zero79
  obtain ⟨zs, hzs⟩ : ∃ zs, zs = arr32 64 fun _ => 0 := ⟨_, rfl⟩
  rw [← hzs] at hz
  have hzz : zs.size = 64 := by rw [hzs]; exact arr32_size _ _
  have HCD := Lib.hid (info79.trans (congrArg some hcdz.symm))
  have HCF := Lib.hid (info79.trans (congrArg some hcfz.symm))
  have HZF := Lib.hid (hzz.trans hcfz.symm)
  have HF1 := Lib.hid (show cf.all (·.oneCell') = true from one_map hcf)
  have HFW := Lib.hid hfw
  have HCELL := Lib.hid hcell
  have HR := Lib.hid hR
  have HH := Lib.hid h
  have HM := Lib.hid hm
  have hfc := hm.fc
  have hfbl := (hm.aw fb (by simp)).1
  clear h hm hb hfit hf hcc hfw hcd hcf hcdz hcfz hcell hR hzs hzz
  go_enter Tryd.func25, Tryd.ntmps25
  go_wp2_with ((with_reducible show wpList _ _ _ (⟨_, .load 79 (.tmp 10), _, _, _, _⟩ :: _) _ _); refine wpList_load_row rfl 79 (.tmp 10) rfl w.heap.size rfl 79 cd (0, 0) _ (heap_alloc_new _ _) Tryd.underlying79 rfl HCD.out ?_)
  refine (HFW.out _).mono ?_
  rintro e w1 ⟨rfl, hb1⟩
  have HB1 := Lib.hid hb1
  clear hb1
  go_wp2_with ((with_reducible show wpList _ _ _ (⟨none, .store 79 (.tmp 11) (.tmp 20), _, _, _, _⟩ :: _) _ _); refine wpList_store_new rfl 79 (.tmp 11) (.tmp 20) rfl w1.heap.size cf rfl rfl _ _ 79 rfl HCF.out HZF.out HF1.out ?_)
  obtain ⟨F, hF⟩ : ∃ F, F = w1.heap.size := ⟨_, rfl⟩
  have hbelow : Below w.heap.size w (w1.alloc (.cells cf 79)) := ((((Below.refl w.heap.size w).alloc (Nat.le_refl _) (.cells cd 79)).trans (HB1.out.mono (by simp))).alloc (by have := HB1.out.size; simp at this; omega) _)
  have hk0 := Keeps.below hbelow [O] v
  have hF1 : w.heap.size < F := by have := HB1.out.size; simp at this; omega
  have hO := HH.out.lt
  have hr3 : Reads3 (w1.alloc (.cells cf 79)) fb T LB PB ZB ov A O F v Q l cc := by
    refine ⟨fun j hj => by rw [hF]; exact HCELL.out w1 j hj, HM.out.step hk0, by rw [hF]; simp, by omega, by have := (HM.out.aw LB (by simp)).1; omega, fun e => ?_⟩
    have := HH.out.row.lt e
    omega
  have ho3 := HH.out.below hbelow
  generalize w1.alloc (.cells cf 79) = W1 at hbelow hk0 hr3 ho3 ⊢
  rw [← hF]
  have HO := Lib.hid ho3
  have HR3 := Lib.hid hr3
  have HK0 := Lib.hid hk0
  have hx0 := hr3.cell 0 (by omega)
  rw [show zzAt 0 = 0 from rfl] at hx0
  have ht0 := hr3.m.tc q hq 0 (by omega)
  rw [Nat.add_zero] at ht0
  have hq0 := HR.out.qs 0 (by omega)
  have hxb := HR.out.cb 0 (by omega)
  have hdv := HR.out.div 0 (by omega)
  have hlc := hr3.m.lc c hc
  have hpc := hr3.m.pc
  have hcalls := putCalls ov A O q hq
  have hdc := HR.out.dc
  have hla := HR.out.last
  have hs1 := sym_len s (2 * q) (size (f 0 - l c)) (coded (f 0 - l c)) (size (f 0 - l c)) (by omega) (by have := size_le _ 11 hdc; omega) (by have := size_le _ 11 hdc; omega)
  have hal := acs_len (2 * q + 1) (by omega) f HR.out.ac (sym s (2 * q) (size (f 0 - l c)) (coded (f 0 - l c)) (size (f 0 - l c)))
  have har := acs_run (2 * q + 1) f (sym s (2 * q) (size (f 0 - l c)) (coded (f 0 - l c)) (size (f 0 - l c)))
  have hbo : blockOut s q (l c) f = (if 0 < (acs (2 * q + 1) f (sym s (2 * q) (size (f 0 - l c)) (coded (f 0 - l c)) (size (f 0 - l c))) 63).2 then huff (acs (2 * q + 1) f (sym s (2 * q) (size (f 0 - l c)) (coded (f 0 - l c)) (size (f 0 - l c))) 63).1 (2 * q + 1) 0 else (acs (2 * q + 1) f (sym s (2 * q) (size (f 0 - l c)) (coded (f 0 - l c)) (size (f 0 - l c))) 63).1) := rfl
  have hdc1 := fun u v h1 h2 h3 => hcalls.dc u v s (f 0 - l c) h1 h2 h3 hdc
  obtain ⟨s1, hs1'⟩ : ∃ x, x = sym s (2 * q) (size (f 0 - l c)) (coded (f 0 - l c)) (size (f 0 - l c)) := ⟨_, rfl⟩
  rw [← hs1'] at hs1 hal har hbo hdc1
  obtain ⟨x0, hx0'⟩ : ∃ x, x = cc 0 := ⟨_, rfl⟩
  obtain ⟨y0, hy0⟩ : ∃ x, x = f 0 := ⟨_, rfl⟩
  obtain ⟨q0, hq0'⟩ : ∃ x, x = Q q 0 := ⟨_, rfl⟩
  obtain ⟨lc, hlc'⟩ : ∃ x, x = l c := ⟨_, rfl⟩
  rw [← hx0'] at hx0 hdv hxb
  rw [← hy0] at hdv hdc1 hdc
  rw [← hlc'] at hdc1 hdc hla hlc
  rw [← hq0'] at ht0 hq0 hdv
  have hyb : -(2048 : Int) < y0 - lc ∧ y0 - lc < 2048 := by omega
  have hlb : -(4096 : Int) ≤ lc ∧ lc ≤ 4096 := by omega
  obtain ⟨hyb0, hyb1⟩ := hyb
  obtain ⟨hlb0, hlb1⟩ := hlb
  have hsz := size_any (y0 - lc) (by omega)
  have hcdd := fun u => coded_same (y0 - lc) (by omega) (size (y0 - lc)) rfl u
  have hsl := size_le (y0 - lc) 11 hdc
  obtain ⟨sz, hsz'⟩ : ∃ x, x = size (y0 - lc) := ⟨_, rfl⟩
  obtain ⟨cdd, hcdd'⟩ : ∃ x, x = coded (y0 - lc) := ⟨_, rfl⟩
  rw [← hsz'] at hsz hcdd hdc1 hsl
  rw [← hcdd'] at hcdd hdc1
  have HDV := Lib.hid hdv
  have HC := Lib.hid hcalls
  have HDC := Lib.hid hdc1
  have HAL := Lib.hid hal
  have HAR := Lib.hid har
  have HBO := Lib.hid hbo
  have HY := Lib.hid hy0
  have HSZ := Lib.hid hsz
  have HLC := Lib.hid hlc'
  have HCDD := Lib.hid hcdd
  have hq2 : (q : Int) < 2 := by omega
  have hwx : IntKind.i64.wrap x0 = x0 := IntWalk.i64_in _ (by omega)
  have hwq : IntKind.i64.wrap (8 * q0) = 8 * q0 := IntWalk.i64_in _ (by omega)
  have hc3 : (c : Int) < 3 := by omega
  clear hbelow hk0 hr3 ho3 hdv hcalls hdc1 hal har hbo hy0 hsz hcdd hsz' hcdd' hlc' hq0' hx0' hs1' hF hF1 hO hfc hfbl hdc hla
  go_quiet ((go_at_call 26; refine Calls.quiet_of_same (HDV.out _)))
  go_wp2_with fail
  refine (HSZ.out _).mono ?_
  rintro e w2 ⟨rfl, rfl⟩
  go_wp2_with fail
  have HO2 := Lib.hid (HO.out.drew nq)
  have hr2 := HR3.out.step (Keeps.drew [O] v W1 nq)
  have hpc2 := hr2.m.pc
  have hlc2 := hr2.m.lc c hc
  rw [← HLC.out] at hlc2
  have HR2 := Lib.hid hr2
  have HK2 := Lib.hid (HK0.out.trans (Keeps.drew [O] v W1 nq))
  generalize W1.drewN nq = W2 at HO2 HR2 HK2 hpc2 hlc2 ⊢
  have hwy : IntKind.i64.wrap (y0 - lc) = y0 - lc := IntWalk.i64_in _ (by omega)
  have hw2 : IntKind.i64.wrap (2 * (q : Int)) = 2 * (q : Int) := IntWalk.i64_in _ (by omega)
  clear hr2 hpc hlc ht0 hx0 hwx hwq
  refine wp_region_still_tail 12 (by kernel_rfl) (by kernel_rfl) ?_
  simp only [List.take_succ_cons, List.take_zero, List.drop_succ_cons, List.drop_zero]
  repeat still_step
  still_call (HCDD.out _)
  repeat still_step
  refine wpStill_nil ?_
  change wpList _ _ _ _ _ W2.drew
  have HP := Lib.hid (HDC.out W2.drew v (HO2.out.drew 1) (HR2.out.m.pm.step (Keeps.drew [O] v W2 1)) (by omega))
  have HKD := Lib.hid (Keeps.drew [O] v W2 1)
  generalize hW3 : W2.drew = W3 at HP ⊢
  rw [show W2.drewN 1 = W2.drew from rfl, hW3] at HKD
  clear hW3
  go_wp2_with fail
  refine HP.out.mono ?_
  rintro e w3 ⟨rfl, v3, h3, k3⟩
  have hk3 := (HK2.out.trans HKD.out).trans k3
  have hr3 := HR2.out.step (HKD.out.trans k3)
  have hlf := hr3.m.lf c hc
  have hlc3 := hr3.m.lc c hc
  rw [← HLC.out] at hlc3
  have H3 := Lib.hid h3
  have K3 := Lib.hid hk3
  have R3 := Lib.hid hr3
  clear h3 k3 hk3 hr3 hpc2 hlc2 hwy hw2
  go_wp2_with fail
  have hlb := (R3.out.m.aw LB (by simp))
  have ho4 := H3.out.setL LB c (by have := hlb.2.1; simpa using this) hlb.2.2 (.int .i64 y0)
  have hr4 := R3.out.setL c hc y0
  have hk4 := (R3.out.m.setL c hc y0).2
  have hq4 : Keeps [O, LB] v v3 w (w3.setCell ⟨LB, c, none⟩ (.int .i64 y0)) := (K3.out.wider (by simp)).trans (hk4.wider (by simp))
  generalize w3.setCell ⟨LB, c, none⟩ (.int .i64 y0) = W4 at ho4 hr4 hq4 ⊢
  have H4 := Lib.hid ho4
  have R4 := Lib.hid hr4
  have K4 := Lib.hid hq4
  clear ho4 hr4 hk4 hq4 hlb hlf hlc3
  go_loopw [14, 15, 16, 17] (fun r j _ _ wr => ∃ k : Nat, k ≤ 63 ∧ j = .int .i64 ((k : Int) + 1) ∧ Bk2Rel W4 fb T LB PB ZB ov A O F v3 Q (upd l c y0) cc f q s1 r k wr) (fun _ j _ _ _ => 64 - (intOf j).toNat)
  case atStart => exact ⟨0, by omega, rfl, v3, rfl, H4.out, Keeps.refl _ _ _, R4.out⟩
  case round =>
    obtain ⟨k, hk, rfl, v4, rfl, h4, k4, r4⟩ := hrel
    have H5 := Lib.hid h4
    have K5 := Lib.hid k4
    have R5 := Lib.hid r4
    have hrun := HAR.out k
    have halk := HAL.out k hk
    have hpcr := r4.m.pc
    clear h4 k4 r4
    by_cases hlt : k < 63
    · have hlt64 : decide ((k : Int) + 1 < 64) = true := by simp; omega
      have hlt64' : (k : Int) + 1 < 64 := by omega
      have hzc := R5.out.m.zc (k + 1) (by omega)
      have hzl := zz_lt (k + 1) (by omega)
      have hcc := R5.out.cell (k + 1) (by omega)
      have hqk := R5.out.m.tc q hq (k + 1) (by omega)
      have hqb := HR.out.qs (k + 1) (by omega)
      have hcb := HR.out.cb (k + 1) (by omega)
      have hdk := HR.out.div (k + 1) (by omega)
      have hack := HR.out.ac (k + 1) (by omega) (by omega)
      have hstep : acs (2 * q + 1) f s1 (k + 1) = acStep (2 * q + 1) (acs (2 * q + 1) f s1 k) (f (k + 1)) := rfl
      obtain ⟨z, hz'⟩ : ∃ z, z = zzAt (k + 1) := ⟨_, rfl⟩
      obtain ⟨ck, hck⟩ : ∃ x, x = cc (k + 1) := ⟨_, rfl⟩
      obtain ⟨qk, hqk'⟩ : ∃ x, x = Q q (k + 1) := ⟨_, rfl⟩
      obtain ⟨y, hy⟩ : ∃ x, x = f (k + 1) := ⟨_, rfl⟩
      obtain ⟨a, ha⟩ : ∃ x, x = acs (2 * q + 1) f s1 k := ⟨_, rfl⟩
      rw [← hz'] at hzc hzl hcc
      rw [← hck] at hcc hdk hcb
      rw [← hqk'] at hqk hqb hdk
      rw [← hy] at hdk hack hstep
      rw [← ha] at H5 hrun halk hstep
      have hzl' : (z : Int) < 64 := by omega
      have hwx : IntKind.i64.wrap ck = ck := IntWalk.i64_in _ (by omega)
      have hwq : IntKind.i64.wrap (8 * qk) = 8 * qk := IntWalk.i64_in _ (by omega)
      have hkn : ((k : Int) + 1).toNat = k + 1 := by omega
      have hk0 : (0 : Int) ≤ (k : Int) + 1 := by omega
      have HDK := Lib.hid hdk
      have HST := Lib.hid hstep
      have HA := Lib.hid ha
      clear hdk hstep ha hz' hck hqk' hy
      rw [← HA.out]
      by_cases hy0 : y = 0
      · subst hy0
        go_wp2_with fail
        go_quiet ((go_at_call 26; refine Calls.quiet_of_same (HDK.out _)))
        go_wp2_with fail
        go_roundw
        case rel =>
          refine ⟨k + 1, by omega, by go_num, v4, ?_, ?_, K5.out.trans (Keeps.drew _ _ _ nq), R5.out.step (Keeps.drew _ _ _ nq)⟩
          · rw [HST.out]; unfold acStep; rw [if_pos rfl]; simp
          · rw [HST.out]; unfold acStep; rw [if_pos rfl]; exact H5.out.drew nq
        case measure => simp [intOf]; omega
      · have hyb : (y == 0) = false := by simpa using hy0
        go_wp2_with fail
        go_quiet ((go_at_call 26; refine Calls.quiet_of_same (HDK.out _)))
        go_wp2_with fail
        have HO6 := Lib.hid (H5.out.drew nq)
        have HK6 := Lib.hid (K5.out.trans (Keeps.drew _ _ _ nq))
        have HR6 := Lib.hid (R5.out.step (Keeps.drew _ _ _ nq))
        generalize wr.drewN nq = W5 at HO6 HK6 HR6 ⊢
        clear hzc hcc hqk hpcr hwx hwq
        go_loopw [14] (fun r wr => Zr2Rel W4 fb T LB PB ZB ov A O F v3 Q (upd l c y0) cc q a r wr) (fun r _ => (intOf r).toNat)
        case atStart => exact ⟨v4, 0, a.2, rfl, by omega, HO6.out, HK6.out, HR6.out⟩
        case round =>
          obtain ⟨v5, j, m, rfl, hm, h5, k5, r5⟩ := hrel
          have hpcr := r5.m.pc
          have H7 := Lib.hid h5
          have K7 := Lib.hid k5
          have R7 := Lib.hid r5
          have hzl5 := zrl_len (2 * q + 1) (by omega) a.1 j
          clear h5 k5 r5
          by_cases h15 : 15 < m
          · go_wp2_with fail
            refine (HC.out.zrl _ v5 _ H7.out R7.out.m.pm (by omega)).mono ?_
            rintro e w6 ⟨rfl, v6, h6, k6⟩
            have H8 := Lib.hid h6
            have K8 := Lib.hid k6
            have R8 := Lib.hid (R7.out.step k6)
            clear h6 k6
            go_wp2_with fail
            go_roundw
            case rel => exact ⟨v6, j + 1, m - 16, by simp; omega, by omega, H8.out, K7.out.trans K8.out, R8.out⟩
            case measure => simp [intOf]; omega
          · have hj : j = a.2 / 16 := by omega
            have hmm : m = a.2 % 16 := by omega
            have hsy := size_any y (by omega)
            have hcy := fun u => coded_same y (by omega) (size y) rfl u
            have hsl' := size_le y 10 hack
            have hor := or_nib64 m (by omega) (size y) (by omega)
            have hac := fun u v s h1 h2 h3 => HC.out.ac u v s m y h1 h2 h3 (by omega) hack
            obtain ⟨sy, hsy'⟩ : ∃ x, x = size y := ⟨_, rfl⟩
            obtain ⟨cy, hcy'⟩ : ∃ x, x = coded y := ⟨_, rfl⟩
            rw [← hsy'] at hsy hcy hsl' hor hac
            rw [← hcy'] at hcy hac
            have HSY := Lib.hid hsy
            have HCY := Lib.hid hcy
            have HAC := Lib.hid hac
            have HJ := Lib.hid hj
            have HMM := Lib.hid hmm
            have HSY' := Lib.hid (And.intro hsy' hcy')
            have hw2 : IntKind.i64.wrap (2 * (q : Int)) = 2 * (q : Int) := IntWalk.i64_in _ (by omega)
            have hw3 : IntKind.i64.wrap (2 * (q : Int) + 1) = 2 * (q : Int) + 1 := IntWalk.i64_in _ (by omega)
            have hw4 : IntKind.i64.wrap ((m : Int) * 16) = (m : Int) * 16 := IntWalk.i64_in _ (by omega)
            clear hsy hcy hac hsy' hcy' hj hmm
            go_wp2_with fail
            refine (HSY.out _).mono ?_
            rintro e w6 ⟨rfl, rfl⟩
            go_wp2_with fail
            refine wp_region_still_tail 12 (by kernel_rfl) (by kernel_rfl) ?_
            simp only [List.take_succ_cons, List.take_zero, List.drop_succ_cons, List.drop_zero]
            repeat still_step
            still_call (HCY.out _)
            repeat still_step
            refine wpStill_nil ?_
            change wpList _ _ _ _ _ wr.drew
            have HP := Lib.hid (HAC.out wr.drew v5 _ (H7.out.drew 1) (R7.out.m.pm.step (Keeps.drew [O] v5 wr 1)) (by omega))
            have HKD := Lib.hid (Keeps.drew [O] v5 wr 1)
            generalize hW7 : wr.drew = W7 at HP ⊢
            rw [show wr.drewN 1 = wr.drew from rfl, hW7] at HKD
            clear hW7
            go_wp2_with fail
            refine HP.out.mono ?_
            rintro e w8 ⟨rfl, v6, h6, k6⟩
            have H8 := Lib.hid h6
            have K8 := Lib.hid (HKD.out.trans k6)
            have R8 := Lib.hid (R7.out.step (HKD.out.trans k6))
            clear h6 k6
            go_wp2_with fail
            go_roundw
            case rel =>
              refine ⟨k + 1, by omega, by go_num, v6, ?_, ?_, K7.out.trans K8.out, R8.out⟩
              · rw [HST.out]; unfold acStep; rw [if_neg hy0]; rfl
              · rw [HST.out]; unfold acStep; rw [if_neg hy0, ← HJ.out, ← HMM.out, ← HSY'.out.1, ← HSY'.out.2]; exact H8.out
            case measure => simp [intOf]; omega
    · obtain rfl : k = 63 := by omega
      have fin : ∀ (v6 : Value) (w6 : World) (t : St), OutAt w6 O v6 t → t = blockOut s q (l c) f → Keeps [O] v3 v6 W4 w6 → Reads3 w6 fb T LB PB ZB ov A O F v6 Q (upd l c y0) cc → BcPost fb T LB PB ZB ov A O v Q l w s c q f (.returned (.tuple #[])) w6 := fun v6 w6 t ho ht hk hr => by
        refine ⟨rfl, v6, by rw [← ht]; exact ho, ?_, K4.out.trans (hk.wider (by simp))⟩
        rw [← HY.out]
        exact hr.m
      have FIN := Lib.hid fin
      clear fin
      have hlt64 : decide (((63 : Nat) : Int) + 1 < 64) = false := by decide
      have hbo := HBO.out
      by_cases hr0 : 0 < (acs (2 * q + 1) f s1 63).2
      · rw [if_pos hr0] at hbo
        have HB0 := Lib.hid hbo
        clear hbo
        go_wp2_with fail
        refine (HC.out.eob _ v4 _ H5.out R5.out.m.pm (by omega)).mono ?_
        rintro e w6 ⟨rfl, v6, h6, k6⟩
        have H6 := Lib.hid h6
        have K6 := Lib.hid k6
        clear h6 k6
        go_wp2_with fail
        go_end0
        exact FIN.out v6 w6 _ H6.out HB0.out.symm (K5.out.trans K6.out) (R5.out.step K6.out)
      · rw [if_neg hr0] at hbo
        have HB0 := Lib.hid hbo
        clear hbo
        go_wp2_with fail
        go_end0
        exact FIN.out v4 wr _ H5.out HB0.out.symm K5.out R5.out
end Go.Proofs.YtlibflbpajeeeaaDoor
