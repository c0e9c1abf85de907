/- The contract of jpeg.Encode over a picture of kind Gray. Printed by wip/gen/enc.py. The contract of jpeg.Encode over a picture of kind Rgb. Printed by wip/gen/enc.py. The contract of jpeg.Encode over a picture of kind Ycc. Printed by wip/gen/enc.py. (Joined by wip/gen/merge.py.) -/
import Derived.Test.YtlibflbpajeeeaaDoorJImg
import Derived.Test.YtlibflbpajeeeaaDoorJInit
import Derived.Deep.RegionWith
import Derived.Deep.DeepCutAuto
import Derived.BigRegion
import Derived.Test.YtlibflbpajeeeaaDoorJSosR
import Derived.Test.YtlibflbpajeeeaaDoorDhtC
namespace Go.Proofs.YtlibflbpajeeeaaDoor
open Go.RowKit Go.Sort

set_option maxRecDepth 100000 in
set_option maxHeartbeats 4000000 in
theorem encGray_any (w : World) (Z : Nat) (M pb wd ht : Nat) (v : Value) (L : List Int) (q : Int) (opt : Value) (hz : ZAt w Z v []) (hL : Laid w) (hZ : 2 < Z) (hv : ∀ g, v.ownBlock = some g → 2 < g)
    (hg : GrayAt w M pb wd ht L) (ha : Away v [Z] w [M, pb]) (hd : 1 ≤ wd ∧ wd ≤ 100 ∧ 1 ≤ ht ∧ ht ≤ 100)
    (hopt : (opt = .pointer none ∧ q = 75) ∨ ∃ O q0, opt = .pointer (some ⟨O, 0, none⟩) ∧ w.cell? ⟨O, 0, none⟩ = some (.int .i64 q0) ∧ -32768 ≤ q0 ∧ q0 ≤ 32767 ∧ q = min (max q0 1) 100) :
    Calls Tryd.prog 17 #[.iface 53 (.pointer (some ⟨Z, 0, none⟩)), .iface 90 (.pointer (some ⟨M, 0, none⟩)), opt] w fun e w' => e = .returned Value.nilIface ∧ ∃ v', ZAt w' Z v' (fileOf true q (fun x y => L.getD (y * wd + x) 0) (fun _ _ => 0) (fun _ _ => 0) wd ht) ∧ Keeps [Z] v v' w w' := by
  have hz115 := zero115
  obtain ⟨z115, hz1⟩ : ∃ z : Array Value, z = enL.toArray := ⟨_, rfl⟩
  rw [← hz1] at hz115
  have HZ1 := Lib.hid hz1
  have HZ := Lib.hid hz
  have HL := Lib.hid hL
  have HG := Lib.hid hg
  have HA := Lib.hid ha
  have HO := Lib.hid hopt
  have HV := Lib.hid hv
  obtain ⟨hd1, hd2, hd3, hd4⟩ := hd
  have hr0 := past1 hg.r0
  have hr1 := past1 hg.r1
  have hr2 := past1 hg.r2
  have hr3 := past1 hg.r3
  clear hz1 hz hL hg ha hopt hv
  go_enter Tryd.func17, Tryd.ntmps17
  go_wp2_with (go_at_call 66; go_in)
  refine (dx_any _ wd ht (by omega)).mono ?_
  rintro e w1 ⟨rfl, rfl⟩
  have hb1 : Below w.heap.size w (((w.alloc (.cells #[.int .i64 0, .int .i64 0, .int .i64 wd, .int .i64 ht] 88)).alloc (.cells #[.int .i64 0, .int .i64 0, .int .i64 wd, .int .i64 ht] 88)).alloc (.cells (rectC wd ht) 88)) := (((Below.refl _ _).alloc (Nat.le_refl _) _).alloc (by simp) _).alloc (by simp; omega) _
  have hx1 : (((w.alloc (.cells #[.int .i64 0, .int .i64 0, .int .i64 wd, .int .i64 ht] 88)).alloc (.cells #[.int .i64 0, .int .i64 0, .int .i64 wd, .int .i64 ht] 88)).alloc (.cells (rectC wd ht) 88)).heap[w.heap.size + 1]? = some (.cells (rectC wd ht) 88 (0, 0)) := by
    rw [heap_alloc_old _ _ (by simp)]
    have := heap_alloc_new (w.alloc (.cells #[.int .i64 0, .int .i64 0, .int .i64 wd, .int .i64 ht] 88)) (.cells #[.int .i64 0, .int .i64 0, .int .i64 wd, .int .i64 ht] 88)
    simpa [rectC] using this
  generalize ((w.alloc _).alloc _).alloc _ = W1 at hb1 hx1 ⊢
  obtain ⟨R, hR⟩ : ∃ R, R = w.heap.size + 1 := ⟨_, rfl⟩
  rw [← hR] at hx1
  rw [← hR]
  have HR := Lib.hid hR
  have c0 : W1.cell? ⟨R, 0, none⟩ = some (.int .i64 0) := by rw [cell_of_row _ _ _ _ 88 (0, 0) hx1]; rfl
  have c1 : W1.cell? ⟨R, 1, none⟩ = some (.int .i64 0) := by rw [cell_of_row _ _ _ _ 88 (0, 0) hx1]; rfl
  have c2 : W1.cell? ⟨R, 2, none⟩ = some (.int .i64 wd) := by rw [cell_of_row _ _ _ _ 88 (0, 0) hx1]; rfl
  have c3 : W1.cell? ⟨R, 3, none⟩ = some (.int .i64 ht) := by rw [cell_of_row _ _ _ _ 88 (0, 0) hx1]; rfl
  have hge1 : decide ((65536 : Int) ≤ (wd : Int)) = false := by simp; omega
  have hge2 : decide ((65536 : Int) ≤ (ht : Int)) = false := by simp; omega
  have HB1 := Lib.hid hb1
  have HX1 := Lib.hid hx1
  clear hb1 hx1 hR hr0 hr1 hr2 hr3
  go_wp2_with fail
  refine (dy_any W1 wd ht (by omega)).mono ?_
  rintro e w2 ⟨rfl, rfl⟩
  have hb2 := HB1.out.alloc HB1.out.size (.cells (rectC wd ht) 88)
  have hx2 : (W1.alloc (.cells (rectC wd ht) 88)).heap[R]? = some (.cells (rectC wd ht) 88 (0, 0)) := by
    rw [heap_alloc_old _ _ (lt_of_heap HX1.out)]; exact HX1.out
  generalize W1.alloc (.cells (rectC wd ht) 88) = W2 at hb2 hx2 ⊢
  have HB2 := Lib.hid hb2
  have HX2 := Lib.hid hx2
  clear hb2 hx2 c0 c1 c2 c3 HB1 HX1
  obtain ⟨E, hE⟩ : ∃ E, E = W2.heap.size := ⟨_, rfl⟩
  go_wp2_with fail
  refine (newLUT_any _).mono ?_
  intro ee w4 hlp
  obtain ⟨cz, hce⟩ : ∃ cz, ee = .returned (.agg cz) := by obtain ⟨cz, h, _⟩ := hlp; exact ⟨cz, h⟩
  rw [HZ1.out] at hlp
  obtain ⟨s1, s2, s3, s4, s5, s6⟩ := EnRel.start (q := q) HX2.out (by have := HR.out; omega) HB2.out HZ.out hce hlp
  rw [← hE] at s1 s4 s5 s6
  subst hce
  rw [← hE]
  have HTH := Lib.hid s1
  have HI4 := Lib.hid (info113.trans (congrArg some s2.symm))
  have HALL := Lib.hid s3
  have HS6 := Lib.hid s6
  have HE := Lib.hid hE
  clear s1 s2 s3 s6 hlp hE HZ1
  go_upto_region 8 with ((with_reducible show wpList _ _ _ (⟨none, .store 113 (.tmp 27) (.tmp 26), _, _, _, _⟩ :: _) _ _); refine wpList_store_mid rfl 113 (.tmp 27) (.tmp 26) rfl E 148 cz rfl rfl HTH.out HI4.out HALL.out ?_)
  clear s4 s5 HTH HI4 HALL
  generalize (w4.setCells E 148 cz.toList).setCell ⟨E, 0, none⟩ (.iface 53 (.pointer (some ⟨Z, 0, none⟩))) = W5 at HS6 ⊢
  obtain ⟨nb, hq1, hq2, hnb⟩ : ∃ nb : Bool, (∀ W : World, (eqGuard .neq 50 (.tmp 30) (.const (.pointer none)) opt (.pointer none)).run Tryd.prog W = .ok () W) ∧ (∀ W : World, (binOp .neq 50 opt (.pointer none)).run Tryd.prog W = .ok (.bool nb) W) ∧
      ((nb = false ∧ q = 75) ∨ (nb = true ∧ ∃ O q0, opt = .pointer (some ⟨O, 0, none⟩) ∧ W5.cell? ⟨O, 0, none⟩ = some (.int .i64 q0) ∧ -32768 ≤ q0 ∧ q0 ≤ 32767 ∧ q = min (max q0 1) 100)) := by
    rcases HO.out with ⟨rfl, h2⟩ | ⟨O, q0, rfl, h2, h3⟩
    · exact ⟨false, optNil1, optNil2, .inl ⟨rfl, h2⟩⟩
    · exact ⟨true, optSome1 O, optSome2 O, .inr ⟨rfl, O, q0, rfl, (HS6.out.bw.cell (p := ⟨O, 0, none⟩) (World.block_lt_of_cell? w _ h2)).trans h2, h3⟩⟩
  have HNB := Lib.hid hnb
  clear hnb
  go_upto_if 31 with fail
  go_cut [9] (fun qv wx => qv = .int .i64 q ∧ wx = W5)
  case first =>
    rcases HNB.out with ⟨rfl, rfl⟩ | ⟨rfl, O, q0, rfl, hc, h1, h2, h3⟩
    · go_wp2_with fail
      go_meet
      case rel => exact ⟨rfl, rfl⟩
    · have H3 := Lib.hid h3
      clear h3
      by_cases hl1 : q0 < 1
      · have hd1 : decide (q0 < 1) = true := by simpa using hl1
        go_wp2_with fail
        go_meet
        case rel => exact ⟨by rw [H3.out]; congr 1; omega, rfl⟩
      · have hd1 : decide (q0 < 1) = false := by simpa using hl1
        by_cases hl2 : 100 < q0
        · have hd2 : decide (100 < q0) = true := by simpa using hl2
          go_wp2_with fail
          go_meet
          case rel => exact ⟨by rw [H3.out]; congr 1; omega, rfl⟩
        · have hd2 : decide (100 < q0) = false := by simpa using hl2
          go_wp2_with fail
          go_meet
          case rel => exact ⟨by rw [H3.out]; congr 1; omega, rfl⟩
  case rest =>
  obtain ⟨rfl, rfl⟩ := hcut
  have hq : 1 ≤ q ∧ q ≤ 100 := by
    rcases HNB.out with ⟨_, h⟩ | ⟨_, O, q0, _, _, _, _, h⟩ <;> omega
  clear hq1 hq2 HNB
  obtain ⟨w5, rfl⟩ : ∃ w5 : World, w5 = wc := ⟨_, rfl⟩
  go_upto_if 41 with fail
  go_cut [10] (fun kv wx => kv = .int .i64 (scl q) ∧ wx = w5)
  case first =>
    obtain ⟨hq1, hq2⟩ := hq
    by_cases h50 : q < 50
    · have hd1 : decide (q < 50) = true := by simpa using h50
      have hne : q ≠ 0 := by omega
      go_wp2_with fail
      go_meet
      case rel => exact ⟨by unfold scl; rw [if_pos h50], rfl⟩
    · have hd1 : decide (q < 50) = false := by simpa using h50
      go_wp2_with fail
      go_meet
      case rel => exact ⟨by rw [scl, if_neg (by omega)]; congr 1; omega, rfl⟩
  case rest =>
  obtain ⟨rfl, rfl⟩ := hcut
  obtain ⟨hs0, hs1⟩ := scl_bd q hq
  obtain ⟨sk, hsk⟩ : ∃ sk, sk = scl q := ⟨_, rfl⟩
  rw [← hsk] at hs0 hs1
  rw [← hsk]
  have HSK := Lib.hid hsk
  clear hsk
  obtain ⟨W5, rfl⟩ : ∃ W5 : World, W5 = wc := ⟨_, rfl⟩
  go_wp2_with fail
  go_loopw [11, 12, 13, 47, 50] (fun _ _ _ cv _ wr => ∃ c : Nat, c ≤ 2 ∧ cv = .int .i64 c ∧ EnRel w E Z v q R wd ht (64 * c) wr) (fun _ _ _ cv _ _ => 2 - (intOf cv).toNat)
  case atStart => exact ⟨0, by omega, rfl, HS6.out⟩
  case round =>
    obtain ⟨c, hc, rfl, hst⟩ := hrel
    by_cases hc2 : c < 2
    · have hdc : decide ((c : Int) < 2) = true := by simp; omega
      have HST := Lib.hid hst
      clear hst
      obtain ⟨w0, rfl⟩ : ∃ w0 : World, w0 = wr := ⟨_, rfl⟩
      go_wp2_with fail
      go_loopw [12, 13, 50] (fun _ _ jv wr => ∃ j : Nat, j ≤ 64 ∧ jv = .int .i64 j ∧ EnRel w E Z v q R wd ht (64 * c + j) wr) (fun _ _ jv _ => 64 - (intOf jv).toNat)
      case atStart => exact ⟨0, by omega, rfl, HST.out⟩
      case round =>
        obtain ⟨j, hj, rfl, hst⟩ := hrel
        by_cases hj64 : j < 64
        · have hdj : decide ((j : Int) < 64) = true := by simp; omega
          have hun := (HL.out.below hst.bw).un (64 * c + j) (by omega)
          rw [show (64 * c + j) / 64 = c by omega, show (64 * c + j) % 64 = j by omega, show 64 * c + j = c * 64 + j by omega] at hun
          obtain ⟨hb0, hb1⟩ := base_bd c hc2 (zzAt j) (zz_lt j hj64)
          have hv : qt q c j = min (max ((baseF c (zzAt j) * sk + 50) / 100) 1) 255 := by unfold qt; rw [HSK.out]
          obtain ⟨x, hx⟩ : ∃ x, x = baseF c (zzAt j) := ⟨_, rfl⟩
          rw [← hx] at hb0 hb1 hv hun
          have hxk0 : 0 ≤ x * sk := Int.mul_nonneg hb0 hs0
          have hxk1 : x * sk ≤ 121 * 5000 := Int.mul_le_mul hb1 hs1 hs0 (by omega)
          obtain ⟨old, hold⟩ := hst.qx (64 * c + j) (by omega)
          rw [show 20 + (64 * c + j) = 20 + c * 64 + j by omega] at hold
          have hfz := hst.e.fr (20 + c * 64 + j) (by omega)
          have N := Lib.hid (fun (y : Int) (hy : y = qt q c j) => hst.set (by omega) y (by rw [hy, show (64 * c + j) / 64 = c by omega, show (64 * c + j) % 64 = j by omega]))
          have HB := Lib.hid hx
          obtain ⟨y, hy⟩ : ∃ y, y = (x * sk + 50) / 100 := ⟨_, rfl⟩
          rw [← hy] at hv
          have VAL := Lib.hid hv
          have hy0 : 0 ≤ y := by omega
          have hy1 : y ≤ 6051 := by omega
          have hyy := hy.symm
          clear hv hx hst hy
          by_cases hl1 : y < 1
          · have hd1 : decide (y < 1) = true := by simpa using hl1
            go_wp2_with fail
            go_roundw
            case rel =>
              refine ⟨j + 1, by omega, by go_num, ?_⟩
              have := N.out 1 (by rw [VAL.out]; omega)
              rw [show 20 + (64 * c + j) = 20 + c * 64 + j by omega, show 64 * c + j + 1 = 64 * c + (j + 1) by omega] at this
              exact this
            case measure => simp [intOf]; omega
          · have hd1 : decide (y < 1) = false := by simpa using hl1
            by_cases hl2 : 255 < y
            · have hd2 : decide (255 < y) = true := by simpa using hl2
              go_wp2_with fail
              go_roundw
              case rel =>
                refine ⟨j + 1, by omega, by go_num, ?_⟩
                have := N.out 255 (by rw [VAL.out]; omega)
                rw [show 20 + (64 * c + j) = 20 + c * 64 + j by omega, show 64 * c + j + 1 = 64 * c + (j + 1) by omega] at this
                exact this
              case measure => simp [intOf]; omega
            · have hd2 : decide (255 < y) = false := by simpa using hl2
              go_wp2_with fail
              go_roundw
              case rel =>
                refine ⟨j + 1, by omega, by go_num, ?_⟩
                have := N.out y (by rw [VAL.out]; omega)
                rw [show 20 + (64 * c + j) = 20 + c * 64 + j by omega, show 64 * c + j + 1 = 64 * c + (j + 1) by omega] at this
                exact this
              case measure => simp [intOf]; omega
        · obtain rfl : j = 64 := by omega
          have HST2 := Lib.hid hst
          clear hst
          rw [show ((64 : Nat) : Int) = 64 from rfl]
          go_wp2_with fail
          go_roundw
          case rel => exact ⟨c + 1, by omega, by go_num, by rw [show 64 * (c + 1) = 64 * c + 64 by omega]; exact HST2.out⟩
          case measure => simp [intOf]; omega
    · obtain rfl : c = 2 := by omega
      rw [show ((2 : Nat) : Int) = 2 from rfl]
      have hfix := hst.fix HL.out hZ HV.out
      have haway : Away v [E, Z] wr [M, pb] := fun m hm => by
        obtain ⟨a1, a2, a3⟩ := HA.out m hm
        have := hst.bw.size
        have := hst.hE
        exact ⟨by omega, by simp at a2 ⊢; omega, a3⟩
      have himg := HG.out.keeps (Ts := []) ⟨hst.bw.os, hst.bw.tape, hst.bw.output, hst.bw.size, fun k hk _ _ => hst.bw.block k hk, fun _ h => by cases h⟩ (by simp) (by simp)
      obtain ⟨y0, hy0⟩ := hst.e.bu 0 (by omega)
      obtain ⟨y1, hy1⟩ := hst.e.bu 1 (by omega)
      have f0 := hst.e.fr 2 (by omega)
      have f1 := hst.e.fr 3 (by omega)
      have hbr := ((BufRel.start [255, 216] hst.e).set (by omega) 255 rfl).set (by omega) 216 rfl
      have HST := Lib.hid hst
      have HBR := Lib.hid hbr
      have HF := Lib.hid hfix
      have HAW := Lib.hid haway
      have HIM := Lib.hid himg
      obtain ⟨s0, hs0⟩ : ∃ s0 : St, s0 = ⟨[], 0, 0⟩ := ⟨_, rfl⟩
      rw [← hs0] at HBR
      have HS0 := Lib.hid hs0
      have hl0 : s0.out.length = 0 := by rw [hs0]; rfl
      have hta := fun a w => ta_same 90 (.inl rfl) a w
      clear hst hfix haway himg hbr hs0
      go_wp2_with fail
      refine (write_any _ E Z v s0 [255, 216] ⟨E, 2, none⟩ 2 16 HBR.out.e (by omega) (by omega) (by omega) rfl HBR.out.cells).mono ?_
      rintro e w6 ⟨rfl, v6, h6, k6⟩
      have H6 := Lib.hid h6
      have K6 := Lib.hid (HBR.out.k.trans k6)
      clear h6 k6 hy0 hy1 f0 f1 HBR
      go_wp2_with fail
      refine (dqt_any w6 E Z v6 _ q H6.out (fun c hc j hj => (HF.out.step (K6.out.to [])).qu c hc j hj) (by rw [put_len, hl0]; decide)).mono ?_
      rintro e w7 ⟨rfl, v7, h7, k7⟩
      have H7 := Lib.hid h7
      have K7 := Lib.hid (K6.out.trans k7)
      have hx7 : w7.heap[R]? = some (.cells (rectC wd ht) 88 (0, 0)) := by
        have hRl := lt_of_heap HST.out.x
        have hzl := HZ.out.lt
        have hR2 := HST.out.hR
        rw [K7.out.k.block R hRl (by simp; omega) (fun e => by have := HZ.out.row.lt e; omega)]
        exact HST.out.x
      have c0 : w7.cell? ⟨R, 0, none⟩ = some (.int .i64 0) := by rw [cell_of_row _ _ _ _ 88 (0, 0) hx7]; rfl
      have c1 : w7.cell? ⟨R, 1, none⟩ = some (.int .i64 0) := by rw [cell_of_row _ _ _ _ 88 (0, 0) hx7]; rfl
      have c2 : w7.cell? ⟨R, 2, none⟩ = some (.int .i64 wd) := by rw [cell_of_row _ _ _ _ 88 (0, 0) hx7]; rfl
      have c3 : w7.cell? ⟨R, 3, none⟩ = some (.int .i64 ht) := by rw [cell_of_row _ _ _ _ 88 (0, 0) hx7]; rfl
      clear h7 k7 hx7
      go_wp2_with fail
      refine (rsize_any w7 wd ht (by omega)).mono ?_
      rintro e w8 ⟨rfl, hb8⟩
      obtain ⟨h8, k8⟩ := H7.out.below hb8
      have H8 := Lib.hid h8
      have K8 := Lib.hid (K7.out.trans k8)
      clear h8 k8 hb8 c0 c1 c2 c3
      go_wp2_with fail
      have hlen7 := pre7 s0 hl0 q
      refine (sofGray_any w8 E Z v7 _ wd ht H8.out (by omega) (Nat.le_trans hlen7 (by omega))).mono ?_
      rintro e w9 ⟨rfl, v9, h9, k9⟩
      have H9 := Lib.hid h9
      have K9 := Lib.hid (K8.out.trans k9)
      clear h9 k9
      go_wp2_with fail
      refine (dhtGray_any w9 E Z v9 _ H9.out (Nat.le_trans (pre9 true s0 hl0 q wd ht) (by omega))).mono ?_
      rintro e w10 ⟨rfl, v10, h10, k10⟩
      have H10 := Lib.hid h10
      have K10 := Lib.hid (K9.out.trans k10)
      clear h10 k10
      go_wp2_with fail
      have hlen10 := Nat.le_trans (pre10 true s0 hl0 q wd ht) (show 3000 ≤ 1000000 by omega)
      have hkeep := HIM.out.keeps K10.out.k.fills ((HAW.out).not (by simp)) ((HAW.out).not (by simp))
      refine (sosGray_any w10 E Z M pb wd ht v10 _ (qt q) L H10.out (HF.out.step (K10.out.to [])) (fun c hc j hj => qt_bd q c j) hlen10 ⟨hkeep, HAW.out.step K10.out.k⟩).mono ?_
      rintro e w11 ⟨rfl, v11, h11, k11⟩
      have K11 := Lib.hid (K10.out.trans k11)
      have hhead := head_put true s0 HS0.out q wd ht sosY sos_true
      rw [hhead] at h11
      clear hhead hlen7 hlen10 hkeep
      obtain ⟨sz, hsz⟩ : ∃ sz : St, sz = pushBits (scanOf 8 wd ht (mcuGray (qt q) (fun x y => L.getD (y * wd + x) 0) wd ht) ⟨⟨headL true q wd ht, 0, 0⟩, 0, 0, 0⟩).s 127 7 := ⟨_, rfl⟩
      rw [← hsz] at h11
      have hlz : sz.out.length ≤ 100000000 := len_true q (fun x y => L.getD (y * wd + x) 0) wd ht ⟨hd2, hd4⟩ (fun x y => HG.out.by8 _) sz hsz
      have hout : sz.out ++ [255, 217] = fileOf true q (fun x y => L.getD (y * wd + x) 0) (fun _ _ => 0) (fun _ _ => 0) wd ht := bytes_true q (fun x y => L.getD (y * wd + x) 0) (fun _ _ => 0) (fun _ _ => 0) wd ht sz hsz
      have HOUT := Lib.hid hout
      clear hsz hout
      obtain ⟨y0, hy0⟩ := h11.bu 0 (by omega)
      obtain ⟨y1, hy1⟩ := h11.bu 1 (by omega)
      have f0 := h11.fr 2 (by omega)
      have f1 := h11.fr 3 (by omega)
      have hbr := ((BufRel.start [255, 217] h11).set (by omega) 255 rfl).set (by omega) 217 rfl
      have HBR := Lib.hid hbr
      clear hbr h11 k11
      go_wp2_with fail
      refine (write_any _ E Z v11 sz [255, 217] ⟨E, 2, none⟩ 2 16 HBR.out.e hlz (by omega) (by omega) rfl HBR.out.cells).mono ?_
      rintro e w12 ⟨rfl, v12, h12, k12⟩
      have H12 := Lib.hid h12
      have K12 := Lib.hid (K11.out.trans (HBR.out.k.trans k12))
      clear h12 k12 hy0 hy1 f0 f1 HBR
      go_wp2_with fail
      refine (flush_any w12 E Z v12 _ H12.out).mono ?_
      rintro e w13 ⟨rfl, v13, h13, k13⟩
      have her := h13.er
      have H13 := Lib.hid h13
      have K13 := Lib.hid (K12.out.trans k13)
      clear h13 k13
      go_wp2_with fail
      go_ret
      refine ⟨rfl, v13, ?_, EncStep.since HST.out.bw K13.out HST.out.hE⟩
      rw [← HOUT.out]
      exact H13.out.z
end Go.Proofs.YtlibflbpajeeeaaDoor

namespace Go.Proofs.YtlibflbpajeeeaaDoor
open Go.RowKit Go.Sort

set_option maxRecDepth 100000 in
set_option maxHeartbeats 4000000 in
theorem encRgb_any (w : World) (Z : Nat) (M pb wd ht : Nat) (v : Value) (L : List Int) (q : Int) (opt : Value) (hz : ZAt w Z v []) (hL : Laid w) (hZ : 2 < Z) (hv : ∀ g, v.ownBlock = some g → 2 < g)
    (hg : RgbAt w M pb wd ht L) (ha : Away v [Z] w [M, pb]) (hd : 1 ≤ wd ∧ wd ≤ 100 ∧ 1 ≤ ht ∧ ht ≤ 100)
    (hf8 : ∀ x y, (0 ≤ (rgbY L wd) x y ∧ (rgbY L wd) x y ≤ 255) ∧ (0 ≤ (rgbCb L wd) x y ∧ (rgbCb L wd) x y ≤ 255) ∧ (0 ≤ (rgbCr L wd) x y ∧ (rgbCr L wd) x y ≤ 255)) (hopt : (opt = .pointer none ∧ q = 75) ∨ ∃ O q0, opt = .pointer (some ⟨O, 0, none⟩) ∧ w.cell? ⟨O, 0, none⟩ = some (.int .i64 q0) ∧ -32768 ≤ q0 ∧ q0 ≤ 32767 ∧ q = min (max q0 1) 100) :
    Calls Tryd.prog 17 #[.iface 53 (.pointer (some ⟨Z, 0, none⟩)), .iface 94 (.pointer (some ⟨M, 0, none⟩)), opt] w fun e w' => e = .returned Value.nilIface ∧ ∃ v', ZAt w' Z v' (fileOf false q (rgbY L wd) (rgbCb L wd) (rgbCr L wd) wd ht) ∧ Keeps [Z] v v' w w' := by
  have hz115 := zero115
  obtain ⟨z115, hz1⟩ : ∃ z : Array Value, z = enL.toArray := ⟨_, rfl⟩
  rw [← hz1] at hz115
  have HZ1 := Lib.hid hz1
  have HZ := Lib.hid hz
  have HL := Lib.hid hL
  have HG := Lib.hid hg
  have HA := Lib.hid ha
  have HO := Lib.hid hopt
  have HF8 := Lib.hid hf8
  have HV := Lib.hid hv
  obtain ⟨hd1, hd2, hd3, hd4⟩ := hd
  have hr0 := past1 hg.r0
  have hr1 := past1 hg.r1
  have hr2 := past1 hg.r2
  have hr3 := past1 hg.r3
  clear hz1 hz hL hg ha hopt hv hf8
  go_enter Tryd.func17, Tryd.ntmps17
  go_wp2_with (go_at_call 71; go_in)
  refine (dx_any _ wd ht (by omega)).mono ?_
  rintro e w1 ⟨rfl, rfl⟩
  have hb1 : Below w.heap.size w (((w.alloc (.cells #[.int .i64 0, .int .i64 0, .int .i64 wd, .int .i64 ht] 88)).alloc (.cells #[.int .i64 0, .int .i64 0, .int .i64 wd, .int .i64 ht] 88)).alloc (.cells (rectC wd ht) 88)) := (((Below.refl _ _).alloc (Nat.le_refl _) _).alloc (by simp) _).alloc (by simp; omega) _
  have hx1 : (((w.alloc (.cells #[.int .i64 0, .int .i64 0, .int .i64 wd, .int .i64 ht] 88)).alloc (.cells #[.int .i64 0, .int .i64 0, .int .i64 wd, .int .i64 ht] 88)).alloc (.cells (rectC wd ht) 88)).heap[w.heap.size + 1]? = some (.cells (rectC wd ht) 88 (0, 0)) := by
    rw [heap_alloc_old _ _ (by simp)]
    have := heap_alloc_new (w.alloc (.cells #[.int .i64 0, .int .i64 0, .int .i64 wd, .int .i64 ht] 88)) (.cells #[.int .i64 0, .int .i64 0, .int .i64 wd, .int .i64 ht] 88)
    simpa [rectC] using this
  generalize ((w.alloc _).alloc _).alloc _ = W1 at hb1 hx1 ⊢
  obtain ⟨R, hR⟩ : ∃ R, R = w.heap.size + 1 := ⟨_, rfl⟩
  rw [← hR] at hx1
  rw [← hR]
  have HR := Lib.hid hR
  have c0 : W1.cell? ⟨R, 0, none⟩ = some (.int .i64 0) := by rw [cell_of_row _ _ _ _ 88 (0, 0) hx1]; rfl
  have c1 : W1.cell? ⟨R, 1, none⟩ = some (.int .i64 0) := by rw [cell_of_row _ _ _ _ 88 (0, 0) hx1]; rfl
  have c2 : W1.cell? ⟨R, 2, none⟩ = some (.int .i64 wd) := by rw [cell_of_row _ _ _ _ 88 (0, 0) hx1]; rfl
  have c3 : W1.cell? ⟨R, 3, none⟩ = some (.int .i64 ht) := by rw [cell_of_row _ _ _ _ 88 (0, 0) hx1]; rfl
  have hge1 : decide ((65536 : Int) ≤ (wd : Int)) = false := by simp; omega
  have hge2 : decide ((65536 : Int) ≤ (ht : Int)) = false := by simp; omega
  have HB1 := Lib.hid hb1
  have HX1 := Lib.hid hx1
  clear hb1 hx1 hR hr0 hr1 hr2 hr3
  go_wp2_with fail
  refine (dy_any W1 wd ht (by omega)).mono ?_
  rintro e w2 ⟨rfl, rfl⟩
  have hb2 := HB1.out.alloc HB1.out.size (.cells (rectC wd ht) 88)
  have hx2 : (W1.alloc (.cells (rectC wd ht) 88)).heap[R]? = some (.cells (rectC wd ht) 88 (0, 0)) := by
    rw [heap_alloc_old _ _ (lt_of_heap HX1.out)]; exact HX1.out
  generalize W1.alloc (.cells (rectC wd ht) 88) = W2 at hb2 hx2 ⊢
  have HB2 := Lib.hid hb2
  have HX2 := Lib.hid hx2
  clear hb2 hx2 c0 c1 c2 c3 HB1 HX1
  obtain ⟨E, hE⟩ : ∃ E, E = W2.heap.size := ⟨_, rfl⟩
  go_wp2_with fail
  refine (newLUT_any _).mono ?_
  intro ee w4 hlp
  obtain ⟨cz, hce⟩ : ∃ cz, ee = .returned (.agg cz) := by obtain ⟨cz, h, _⟩ := hlp; exact ⟨cz, h⟩
  rw [HZ1.out] at hlp
  obtain ⟨s1, s2, s3, s4, s5, s6⟩ := EnRel.start (q := q) HX2.out (by have := HR.out; omega) HB2.out HZ.out hce hlp
  rw [← hE] at s1 s4 s5 s6
  subst hce
  rw [← hE]
  have HTH := Lib.hid s1
  have HI4 := Lib.hid (info113.trans (congrArg some s2.symm))
  have HALL := Lib.hid s3
  have HS6 := Lib.hid s6
  have HE := Lib.hid hE
  clear s1 s2 s3 s6 hlp hE HZ1
  go_upto_region 8 with ((with_reducible show wpList _ _ _ (⟨none, .store 113 (.tmp 27) (.tmp 26), _, _, _, _⟩ :: _) _ _); refine wpList_store_mid rfl 113 (.tmp 27) (.tmp 26) rfl E 148 cz rfl rfl HTH.out HI4.out HALL.out ?_)
  clear s4 s5 HTH HI4 HALL
  generalize (w4.setCells E 148 cz.toList).setCell ⟨E, 0, none⟩ (.iface 53 (.pointer (some ⟨Z, 0, none⟩))) = W5 at HS6 ⊢
  obtain ⟨nb, hq1, hq2, hnb⟩ : ∃ nb : Bool, (∀ W : World, (eqGuard .neq 50 (.tmp 30) (.const (.pointer none)) opt (.pointer none)).run Tryd.prog W = .ok () W) ∧ (∀ W : World, (binOp .neq 50 opt (.pointer none)).run Tryd.prog W = .ok (.bool nb) W) ∧
      ((nb = false ∧ q = 75) ∨ (nb = true ∧ ∃ O q0, opt = .pointer (some ⟨O, 0, none⟩) ∧ W5.cell? ⟨O, 0, none⟩ = some (.int .i64 q0) ∧ -32768 ≤ q0 ∧ q0 ≤ 32767 ∧ q = min (max q0 1) 100)) := by
    rcases HO.out with ⟨rfl, h2⟩ | ⟨O, q0, rfl, h2, h3⟩
    · exact ⟨false, optNil1, optNil2, .inl ⟨rfl, h2⟩⟩
    · exact ⟨true, optSome1 O, optSome2 O, .inr ⟨rfl, O, q0, rfl, (HS6.out.bw.cell (p := ⟨O, 0, none⟩) (World.block_lt_of_cell? w _ h2)).trans h2, h3⟩⟩
  have HNB := Lib.hid hnb
  clear hnb
  go_upto_if 31 with fail
  go_cut [9] (fun qv wx => qv = .int .i64 q ∧ wx = W5)
  case first =>
    rcases HNB.out with ⟨rfl, rfl⟩ | ⟨rfl, O, q0, rfl, hc, h1, h2, h3⟩
    · go_wp2_with fail
      go_meet
      case rel => exact ⟨rfl, rfl⟩
    · have H3 := Lib.hid h3
      clear h3
      by_cases hl1 : q0 < 1
      · have hd1 : decide (q0 < 1) = true := by simpa using hl1
        go_wp2_with fail
        go_meet
        case rel => exact ⟨by rw [H3.out]; congr 1; omega, rfl⟩
      · have hd1 : decide (q0 < 1) = false := by simpa using hl1
        by_cases hl2 : 100 < q0
        · have hd2 : decide (100 < q0) = true := by simpa using hl2
          go_wp2_with fail
          go_meet
          case rel => exact ⟨by rw [H3.out]; congr 1; omega, rfl⟩
        · have hd2 : decide (100 < q0) = false := by simpa using hl2
          go_wp2_with fail
          go_meet
          case rel => exact ⟨by rw [H3.out]; congr 1; omega, rfl⟩
  case rest =>
  obtain ⟨rfl, rfl⟩ := hcut
  have hq : 1 ≤ q ∧ q ≤ 100 := by
    rcases HNB.out with ⟨_, h⟩ | ⟨_, O, q0, _, _, _, _, h⟩ <;> omega
  clear hq1 hq2 HNB
  obtain ⟨w5, rfl⟩ : ∃ w5 : World, w5 = wc := ⟨_, rfl⟩
  go_upto_if 41 with fail
  go_cut [10] (fun kv wx => kv = .int .i64 (scl q) ∧ wx = w5)
  case first =>
    obtain ⟨hq1, hq2⟩ := hq
    by_cases h50 : q < 50
    · have hd1 : decide (q < 50) = true := by simpa using h50
      have hne : q ≠ 0 := by omega
      go_wp2_with fail
      go_meet
      case rel => exact ⟨by unfold scl; rw [if_pos h50], rfl⟩
    · have hd1 : decide (q < 50) = false := by simpa using h50
      go_wp2_with fail
      go_meet
      case rel => exact ⟨by rw [scl, if_neg (by omega)]; congr 1; omega, rfl⟩
  case rest =>
  obtain ⟨rfl, rfl⟩ := hcut
  obtain ⟨hs0, hs1⟩ := scl_bd q hq
  obtain ⟨sk, hsk⟩ : ∃ sk, sk = scl q := ⟨_, rfl⟩
  rw [← hsk] at hs0 hs1
  rw [← hsk]
  have HSK := Lib.hid hsk
  clear hsk
  obtain ⟨W5, rfl⟩ : ∃ W5 : World, W5 = wc := ⟨_, rfl⟩
  go_wp2_with fail
  go_loopw [11, 12, 13, 47, 50] (fun _ _ _ cv _ wr => ∃ c : Nat, c ≤ 2 ∧ cv = .int .i64 c ∧ EnRel w E Z v q R wd ht (64 * c) wr) (fun _ _ _ cv _ _ => 2 - (intOf cv).toNat)
  case atStart => exact ⟨0, by omega, rfl, HS6.out⟩
  case round =>
    obtain ⟨c, hc, rfl, hst⟩ := hrel
    by_cases hc2 : c < 2
    · have hdc : decide ((c : Int) < 2) = true := by simp; omega
      have HST := Lib.hid hst
      clear hst
      obtain ⟨w0, rfl⟩ : ∃ w0 : World, w0 = wr := ⟨_, rfl⟩
      go_wp2_with fail
      go_loopw [12, 13, 50] (fun _ _ jv wr => ∃ j : Nat, j ≤ 64 ∧ jv = .int .i64 j ∧ EnRel w E Z v q R wd ht (64 * c + j) wr) (fun _ _ jv _ => 64 - (intOf jv).toNat)
      case atStart => exact ⟨0, by omega, rfl, HST.out⟩
      case round =>
        obtain ⟨j, hj, rfl, hst⟩ := hrel
        by_cases hj64 : j < 64
        · have hdj : decide ((j : Int) < 64) = true := by simp; omega
          have hun := (HL.out.below hst.bw).un (64 * c + j) (by omega)
          rw [show (64 * c + j) / 64 = c by omega, show (64 * c + j) % 64 = j by omega, show 64 * c + j = c * 64 + j by omega] at hun
          obtain ⟨hb0, hb1⟩ := base_bd c hc2 (zzAt j) (zz_lt j hj64)
          have hv : qt q c j = min (max ((baseF c (zzAt j) * sk + 50) / 100) 1) 255 := by unfold qt; rw [HSK.out]
          obtain ⟨x, hx⟩ : ∃ x, x = baseF c (zzAt j) := ⟨_, rfl⟩
          rw [← hx] at hb0 hb1 hv hun
          have hxk0 : 0 ≤ x * sk := Int.mul_nonneg hb0 hs0
          have hxk1 : x * sk ≤ 121 * 5000 := Int.mul_le_mul hb1 hs1 hs0 (by omega)
          obtain ⟨old, hold⟩ := hst.qx (64 * c + j) (by omega)
          rw [show 20 + (64 * c + j) = 20 + c * 64 + j by omega] at hold
          have hfz := hst.e.fr (20 + c * 64 + j) (by omega)
          have N := Lib.hid (fun (y : Int) (hy : y = qt q c j) => hst.set (by omega) y (by rw [hy, show (64 * c + j) / 64 = c by omega, show (64 * c + j) % 64 = j by omega]))
          have HB := Lib.hid hx
          obtain ⟨y, hy⟩ : ∃ y, y = (x * sk + 50) / 100 := ⟨_, rfl⟩
          rw [← hy] at hv
          have VAL := Lib.hid hv
          have hy0 : 0 ≤ y := by omega
          have hy1 : y ≤ 6051 := by omega
          have hyy := hy.symm
          clear hv hx hst hy
          by_cases hl1 : y < 1
          · have hd1 : decide (y < 1) = true := by simpa using hl1
            go_wp2_with fail
            go_roundw
            case rel =>
              refine ⟨j + 1, by omega, by go_num, ?_⟩
              have := N.out 1 (by rw [VAL.out]; omega)
              rw [show 20 + (64 * c + j) = 20 + c * 64 + j by omega, show 64 * c + j + 1 = 64 * c + (j + 1) by omega] at this
              exact this
            case measure => simp [intOf]; omega
          · have hd1 : decide (y < 1) = false := by simpa using hl1
            by_cases hl2 : 255 < y
            · have hd2 : decide (255 < y) = true := by simpa using hl2
              go_wp2_with fail
              go_roundw
              case rel =>
                refine ⟨j + 1, by omega, by go_num, ?_⟩
                have := N.out 255 (by rw [VAL.out]; omega)
                rw [show 20 + (64 * c + j) = 20 + c * 64 + j by omega, show 64 * c + j + 1 = 64 * c + (j + 1) by omega] at this
                exact this
              case measure => simp [intOf]; omega
            · have hd2 : decide (255 < y) = false := by simpa using hl2
              go_wp2_with fail
              go_roundw
              case rel =>
                refine ⟨j + 1, by omega, by go_num, ?_⟩
                have := N.out y (by rw [VAL.out]; omega)
                rw [show 20 + (64 * c + j) = 20 + c * 64 + j by omega, show 64 * c + j + 1 = 64 * c + (j + 1) by omega] at this
                exact this
              case measure => simp [intOf]; omega
        · obtain rfl : j = 64 := by omega
          have HST2 := Lib.hid hst
          clear hst
          rw [show ((64 : Nat) : Int) = 64 from rfl]
          go_wp2_with fail
          go_roundw
          case rel => exact ⟨c + 1, by omega, by go_num, by rw [show 64 * (c + 1) = 64 * c + 64 by omega]; exact HST2.out⟩
          case measure => simp [intOf]; omega
    · obtain rfl : c = 2 := by omega
      rw [show ((2 : Nat) : Int) = 2 from rfl]
      have hfix := hst.fix HL.out hZ HV.out
      have haway : Away v [E, Z] wr [M, pb] := fun m hm => by
        obtain ⟨a1, a2, a3⟩ := HA.out m hm
        have := hst.bw.size
        have := hst.hE
        exact ⟨by omega, by simp at a2 ⊢; omega, a3⟩
      have himg := HG.out.keeps (Ts := []) ⟨hst.bw.os, hst.bw.tape, hst.bw.output, hst.bw.size, fun k hk _ _ => hst.bw.block k hk, fun _ h => by cases h⟩ (by simp) (by simp)
      obtain ⟨y0, hy0⟩ := hst.e.bu 0 (by omega)
      obtain ⟨y1, hy1⟩ := hst.e.bu 1 (by omega)
      have f0 := hst.e.fr 2 (by omega)
      have f1 := hst.e.fr 3 (by omega)
      have hbr := ((BufRel.start [255, 216] hst.e).set (by omega) 255 rfl).set (by omega) 216 rfl
      have HST := Lib.hid hst
      have HBR := Lib.hid hbr
      have HF := Lib.hid hfix
      have HAW := Lib.hid haway
      have HIM := Lib.hid himg
      obtain ⟨s0, hs0⟩ : ∃ s0 : St, s0 = ⟨[], 0, 0⟩ := ⟨_, rfl⟩
      rw [← hs0] at HBR
      have HS0 := Lib.hid hs0
      have hl0 : s0.out.length = 0 := by rw [hs0]; rfl
      have hta := fun a w => ta_other 94 90 (by simp) (by simp) (by decide) a w
      clear hst hfix haway himg hbr hs0
      go_wp2_with fail
      refine (write_any _ E Z v s0 [255, 216] ⟨E, 2, none⟩ 2 16 HBR.out.e (by omega) (by omega) (by omega) rfl HBR.out.cells).mono ?_
      rintro e w6 ⟨rfl, v6, h6, k6⟩
      have H6 := Lib.hid h6
      have K6 := Lib.hid (HBR.out.k.trans k6)
      clear h6 k6 hy0 hy1 f0 f1 HBR
      go_wp2_with fail
      refine (dqt_any w6 E Z v6 _ q H6.out (fun c hc j hj => (HF.out.step (K6.out.to [])).qu c hc j hj) (by rw [put_len, hl0]; decide)).mono ?_
      rintro e w7 ⟨rfl, v7, h7, k7⟩
      have H7 := Lib.hid h7
      have K7 := Lib.hid (K6.out.trans k7)
      have hx7 : w7.heap[R]? = some (.cells (rectC wd ht) 88 (0, 0)) := by
        have hRl := lt_of_heap HST.out.x
        have hzl := HZ.out.lt
        have hR2 := HST.out.hR
        rw [K7.out.k.block R hRl (by simp; omega) (fun e => by have := HZ.out.row.lt e; omega)]
        exact HST.out.x
      have c0 : w7.cell? ⟨R, 0, none⟩ = some (.int .i64 0) := by rw [cell_of_row _ _ _ _ 88 (0, 0) hx7]; rfl
      have c1 : w7.cell? ⟨R, 1, none⟩ = some (.int .i64 0) := by rw [cell_of_row _ _ _ _ 88 (0, 0) hx7]; rfl
      have c2 : w7.cell? ⟨R, 2, none⟩ = some (.int .i64 wd) := by rw [cell_of_row _ _ _ _ 88 (0, 0) hx7]; rfl
      have c3 : w7.cell? ⟨R, 3, none⟩ = some (.int .i64 ht) := by rw [cell_of_row _ _ _ _ 88 (0, 0) hx7]; rfl
      clear h7 k7 hx7
      go_wp2_with fail
      refine (rsize_any w7 wd ht (by omega)).mono ?_
      rintro e w8 ⟨rfl, hb8⟩
      obtain ⟨h8, k8⟩ := H7.out.below hb8
      have H8 := Lib.hid h8
      have K8 := Lib.hid (K7.out.trans k8)
      clear h8 k8 hb8 c0 c1 c2 c3
      go_wp2_with fail
      have hlen7 := pre7 s0 hl0 q
      refine (sofColor_any w8 E Z v7 _ wd ht H8.out (by omega) (Nat.le_trans hlen7 (by omega))).mono ?_
      rintro e w9 ⟨rfl, v9, h9, k9⟩
      have H9 := Lib.hid h9
      have K9 := Lib.hid (K8.out.trans k9)
      clear h9 k9
      go_wp2_with fail
      refine (dhtColor_any w9 E Z v9 _ H9.out (Nat.le_trans (pre9 false s0 hl0 q wd ht) (by omega))).mono ?_
      rintro e w10 ⟨rfl, v10, h10, k10⟩
      have H10 := Lib.hid h10
      have K10 := Lib.hid (K9.out.trans k10)
      clear h10 k10
      go_wp2_with fail
      have hlen10 := Nat.le_trans (pre10 false s0 hl0 q wd ht) (show 3000 ≤ 1000000 by omega)
      have hkeep := HIM.out.keeps K10.out.k.fills ((HAW.out).not (by simp)) ((HAW.out).not (by simp))
      refine (sosRgb_any w10 E Z M pb wd ht v10 _ (qt q) L H10.out (HF.out.step (K10.out.to [])) (fun c hc j hj => qt_bd q c j) hlen10 ⟨hkeep, HAW.out.step K10.out.k⟩ HF8.out).mono ?_
      rintro e w11 ⟨rfl, v11, h11, k11⟩
      have K11 := Lib.hid (K10.out.trans k11)
      have hhead := head_put false s0 HS0.out q wd ht sosC sos_false
      rw [hhead] at h11
      clear hhead hlen7 hlen10 hkeep
      obtain ⟨sz, hsz⟩ : ∃ sz : St, sz = pushBits (scanOf 16 wd ht (mcuColor (qt q) (rgbY L wd) (rgbCb L wd) (rgbCr L wd) wd ht) ⟨⟨headL false q wd ht, 0, 0⟩, 0, 0, 0⟩).s 127 7 := ⟨_, rfl⟩
      rw [← hsz] at h11
      have hlz : sz.out.length ≤ 100000000 := len_false q (rgbY L wd) (rgbCb L wd) (rgbCr L wd) wd ht ⟨hd2, hd4⟩ HF8.out sz hsz
      have hout : sz.out ++ [255, 217] = fileOf false q (rgbY L wd) (rgbCb L wd) (rgbCr L wd) wd ht := bytes_false q (rgbY L wd) (rgbCb L wd) (rgbCr L wd) wd ht sz hsz
      have HOUT := Lib.hid hout
      clear hsz hout
      obtain ⟨y0, hy0⟩ := h11.bu 0 (by omega)
      obtain ⟨y1, hy1⟩ := h11.bu 1 (by omega)
      have f0 := h11.fr 2 (by omega)
      have f1 := h11.fr 3 (by omega)
      have hbr := ((BufRel.start [255, 217] h11).set (by omega) 255 rfl).set (by omega) 217 rfl
      have HBR := Lib.hid hbr
      clear hbr h11 k11
      go_wp2_with fail
      refine (write_any _ E Z v11 sz [255, 217] ⟨E, 2, none⟩ 2 16 HBR.out.e hlz (by omega) (by omega) rfl HBR.out.cells).mono ?_
      rintro e w12 ⟨rfl, v12, h12, k12⟩
      have H12 := Lib.hid h12
      have K12 := Lib.hid (K11.out.trans (HBR.out.k.trans k12))
      clear h12 k12 hy0 hy1 f0 f1 HBR
      go_wp2_with fail
      refine (flush_any w12 E Z v12 _ H12.out).mono ?_
      rintro e w13 ⟨rfl, v13, h13, k13⟩
      have her := h13.er
      have H13 := Lib.hid h13
      have K13 := Lib.hid (K12.out.trans k13)
      clear h13 k13
      go_wp2_with fail
      go_ret
      refine ⟨rfl, v13, ?_, EncStep.since HST.out.bw K13.out HST.out.hE⟩
      rw [← HOUT.out]
      exact H13.out.z
end Go.Proofs.YtlibflbpajeeeaaDoor

namespace Go.Proofs.YtlibflbpajeeeaaDoor
open Go.RowKit Go.Sort

set_option maxRecDepth 100000 in
set_option maxHeartbeats 4000000 in
theorem encYcc_any (w : World) (Z : Nat) (M p0 p1 p2 wd ht : Nat) (v : Value) (L0 L1 L2 : List Int) (q : Int) (opt : Value) (hz : ZAt w Z v []) (hL : Laid w) (hZ : 2 < Z) (hv : ∀ g, v.ownBlock = some g → 2 < g)
    (hg : YccAt w M p0 p1 p2 wd ht L0 L1 L2) (ha : Away v [Z] w [M, p0, p1, p2]) (hd : 1 ≤ wd ∧ wd ≤ 100 ∧ 1 ≤ ht ∧ ht ≤ 100)
    (hf8 : ∀ x y, (0 ≤ (yccP L0 wd) x y ∧ (yccP L0 wd) x y ≤ 255) ∧ (0 ≤ (yccP L1 wd) x y ∧ (yccP L1 wd) x y ≤ 255) ∧ (0 ≤ (yccP L2 wd) x y ∧ (yccP L2 wd) x y ≤ 255)) (hopt : (opt = .pointer none ∧ q = 75) ∨ ∃ O q0, opt = .pointer (some ⟨O, 0, none⟩) ∧ w.cell? ⟨O, 0, none⟩ = some (.int .i64 q0) ∧ -32768 ≤ q0 ∧ q0 ≤ 32767 ∧ q = min (max q0 1) 100) :
    Calls Tryd.prog 17 #[.iface 53 (.pointer (some ⟨Z, 0, none⟩)), .iface 98 (.pointer (some ⟨M, 0, none⟩)), opt] w fun e w' => e = .returned Value.nilIface ∧ ∃ v', ZAt w' Z v' (fileOf false q (yccP L0 wd) (yccP L1 wd) (yccP L2 wd) wd ht) ∧ Keeps [Z] v v' w w' := by
  have hz115 := zero115
  obtain ⟨z115, hz1⟩ : ∃ z : Array Value, z = enL.toArray := ⟨_, rfl⟩
  rw [← hz1] at hz115
  have HZ1 := Lib.hid hz1
  have HZ := Lib.hid hz
  have HL := Lib.hid hL
  have HG := Lib.hid hg
  have HA := Lib.hid ha
  have HO := Lib.hid hopt
  have HF8 := Lib.hid hf8
  have HV := Lib.hid hv
  obtain ⟨hd1, hd2, hd3, hd4⟩ := hd
  have hr0 := past1 hg.r0
  have hr1 := past1 hg.r1
  have hr2 := past1 hg.r2
  have hr3 := past1 hg.r3
  clear hz1 hz hL hg ha hopt hv hf8
  go_enter Tryd.func17, Tryd.ntmps17
  go_wp2_with (go_at_call 73; go_in)
  refine (dx_any _ wd ht (by omega)).mono ?_
  rintro e w1 ⟨rfl, rfl⟩
  have hb1 : Below w.heap.size w (((w.alloc (.cells #[.int .i64 0, .int .i64 0, .int .i64 wd, .int .i64 ht] 88)).alloc (.cells #[.int .i64 0, .int .i64 0, .int .i64 wd, .int .i64 ht] 88)).alloc (.cells (rectC wd ht) 88)) := (((Below.refl _ _).alloc (Nat.le_refl _) _).alloc (by simp) _).alloc (by simp; omega) _
  have hx1 : (((w.alloc (.cells #[.int .i64 0, .int .i64 0, .int .i64 wd, .int .i64 ht] 88)).alloc (.cells #[.int .i64 0, .int .i64 0, .int .i64 wd, .int .i64 ht] 88)).alloc (.cells (rectC wd ht) 88)).heap[w.heap.size + 1]? = some (.cells (rectC wd ht) 88 (0, 0)) := by
    rw [heap_alloc_old _ _ (by simp)]
    have := heap_alloc_new (w.alloc (.cells #[.int .i64 0, .int .i64 0, .int .i64 wd, .int .i64 ht] 88)) (.cells #[.int .i64 0, .int .i64 0, .int .i64 wd, .int .i64 ht] 88)
    simpa [rectC] using this
  generalize ((w.alloc _).alloc _).alloc _ = W1 at hb1 hx1 ⊢
  obtain ⟨R, hR⟩ : ∃ R, R = w.heap.size + 1 := ⟨_, rfl⟩
  rw [← hR] at hx1
  rw [← hR]
  have HR := Lib.hid hR
  have c0 : W1.cell? ⟨R, 0, none⟩ = some (.int .i64 0) := by rw [cell_of_row _ _ _ _ 88 (0, 0) hx1]; rfl
  have c1 : W1.cell? ⟨R, 1, none⟩ = some (.int .i64 0) := by rw [cell_of_row _ _ _ _ 88 (0, 0) hx1]; rfl
  have c2 : W1.cell? ⟨R, 2, none⟩ = some (.int .i64 wd) := by rw [cell_of_row _ _ _ _ 88 (0, 0) hx1]; rfl
  have c3 : W1.cell? ⟨R, 3, none⟩ = some (.int .i64 ht) := by rw [cell_of_row _ _ _ _ 88 (0, 0) hx1]; rfl
  have hge1 : decide ((65536 : Int) ≤ (wd : Int)) = false := by simp; omega
  have hge2 : decide ((65536 : Int) ≤ (ht : Int)) = false := by simp; omega
  have HB1 := Lib.hid hb1
  have HX1 := Lib.hid hx1
  clear hb1 hx1 hR hr0 hr1 hr2 hr3
  go_wp2_with fail
  refine (dy_any W1 wd ht (by omega)).mono ?_
  rintro e w2 ⟨rfl, rfl⟩
  have hb2 := HB1.out.alloc HB1.out.size (.cells (rectC wd ht) 88)
  have hx2 : (W1.alloc (.cells (rectC wd ht) 88)).heap[R]? = some (.cells (rectC wd ht) 88 (0, 0)) := by
    rw [heap_alloc_old _ _ (lt_of_heap HX1.out)]; exact HX1.out
  generalize W1.alloc (.cells (rectC wd ht) 88) = W2 at hb2 hx2 ⊢
  have HB2 := Lib.hid hb2
  have HX2 := Lib.hid hx2
  clear hb2 hx2 c0 c1 c2 c3 HB1 HX1
  obtain ⟨E, hE⟩ : ∃ E, E = W2.heap.size := ⟨_, rfl⟩
  go_wp2_with fail
  refine (newLUT_any _).mono ?_
  intro ee w4 hlp
  obtain ⟨cz, hce⟩ : ∃ cz, ee = .returned (.agg cz) := by obtain ⟨cz, h, _⟩ := hlp; exact ⟨cz, h⟩
  rw [HZ1.out] at hlp
  obtain ⟨s1, s2, s3, s4, s5, s6⟩ := EnRel.start (q := q) HX2.out (by have := HR.out; omega) HB2.out HZ.out hce hlp
  rw [← hE] at s1 s4 s5 s6
  subst hce
  rw [← hE]
  have HTH := Lib.hid s1
  have HI4 := Lib.hid (info113.trans (congrArg some s2.symm))
  have HALL := Lib.hid s3
  have HS6 := Lib.hid s6
  have HE := Lib.hid hE
  clear s1 s2 s3 s6 hlp hE HZ1
  go_upto_region 8 with ((with_reducible show wpList _ _ _ (⟨none, .store 113 (.tmp 27) (.tmp 26), _, _, _, _⟩ :: _) _ _); refine wpList_store_mid rfl 113 (.tmp 27) (.tmp 26) rfl E 148 cz rfl rfl HTH.out HI4.out HALL.out ?_)
  clear s4 s5 HTH HI4 HALL
  generalize (w4.setCells E 148 cz.toList).setCell ⟨E, 0, none⟩ (.iface 53 (.pointer (some ⟨Z, 0, none⟩))) = W5 at HS6 ⊢
  obtain ⟨nb, hq1, hq2, hnb⟩ : ∃ nb : Bool, (∀ W : World, (eqGuard .neq 50 (.tmp 30) (.const (.pointer none)) opt (.pointer none)).run Tryd.prog W = .ok () W) ∧ (∀ W : World, (binOp .neq 50 opt (.pointer none)).run Tryd.prog W = .ok (.bool nb) W) ∧
      ((nb = false ∧ q = 75) ∨ (nb = true ∧ ∃ O q0, opt = .pointer (some ⟨O, 0, none⟩) ∧ W5.cell? ⟨O, 0, none⟩ = some (.int .i64 q0) ∧ -32768 ≤ q0 ∧ q0 ≤ 32767 ∧ q = min (max q0 1) 100)) := by
    rcases HO.out with ⟨rfl, h2⟩ | ⟨O, q0, rfl, h2, h3⟩
    · exact ⟨false, optNil1, optNil2, .inl ⟨rfl, h2⟩⟩
    · exact ⟨true, optSome1 O, optSome2 O, .inr ⟨rfl, O, q0, rfl, (HS6.out.bw.cell (p := ⟨O, 0, none⟩) (World.block_lt_of_cell? w _ h2)).trans h2, h3⟩⟩
  have HNB := Lib.hid hnb
  clear hnb
  go_upto_if 31 with fail
  go_cut [9] (fun qv wx => qv = .int .i64 q ∧ wx = W5)
  case first =>
    rcases HNB.out with ⟨rfl, rfl⟩ | ⟨rfl, O, q0, rfl, hc, h1, h2, h3⟩
    · go_wp2_with fail
      go_meet
      case rel => exact ⟨rfl, rfl⟩
    · have H3 := Lib.hid h3
      clear h3
      by_cases hl1 : q0 < 1
      · have hd1 : decide (q0 < 1) = true := by simpa using hl1
        go_wp2_with fail
        go_meet
        case rel => exact ⟨by rw [H3.out]; congr 1; omega, rfl⟩
      · have hd1 : decide (q0 < 1) = false := by simpa using hl1
        by_cases hl2 : 100 < q0
        · have hd2 : decide (100 < q0) = true := by simpa using hl2
          go_wp2_with fail
          go_meet
          case rel => exact ⟨by rw [H3.out]; congr 1; omega, rfl⟩
        · have hd2 : decide (100 < q0) = false := by simpa using hl2
          go_wp2_with fail
          go_meet
          case rel => exact ⟨by rw [H3.out]; congr 1; omega, rfl⟩
  case rest =>
  obtain ⟨rfl, rfl⟩ := hcut
  have hq : 1 ≤ q ∧ q ≤ 100 := by
    rcases HNB.out with ⟨_, h⟩ | ⟨_, O, q0, _, _, _, _, h⟩ <;> omega
  clear hq1 hq2 HNB
  obtain ⟨w5, rfl⟩ : ∃ w5 : World, w5 = wc := ⟨_, rfl⟩
  go_upto_if 41 with fail
  go_cut [10] (fun kv wx => kv = .int .i64 (scl q) ∧ wx = w5)
  case first =>
    obtain ⟨hq1, hq2⟩ := hq
    by_cases h50 : q < 50
    · have hd1 : decide (q < 50) = true := by simpa using h50
      have hne : q ≠ 0 := by omega
      go_wp2_with fail
      go_meet
      case rel => exact ⟨by unfold scl; rw [if_pos h50], rfl⟩
    · have hd1 : decide (q < 50) = false := by simpa using h50
      go_wp2_with fail
      go_meet
      case rel => exact ⟨by rw [scl, if_neg (by omega)]; congr 1; omega, rfl⟩
  case rest =>
  obtain ⟨rfl, rfl⟩ := hcut
  obtain ⟨hs0, hs1⟩ := scl_bd q hq
  obtain ⟨sk, hsk⟩ : ∃ sk, sk = scl q := ⟨_, rfl⟩
  rw [← hsk] at hs0 hs1
  rw [← hsk]
  have HSK := Lib.hid hsk
  clear hsk
  obtain ⟨W5, rfl⟩ : ∃ W5 : World, W5 = wc := ⟨_, rfl⟩
  go_wp2_with fail
  go_loopw [11, 12, 13, 47, 50] (fun _ _ _ cv _ wr => ∃ c : Nat, c ≤ 2 ∧ cv = .int .i64 c ∧ EnRel w E Z v q R wd ht (64 * c) wr) (fun _ _ _ cv _ _ => 2 - (intOf cv).toNat)
  case atStart => exact ⟨0, by omega, rfl, HS6.out⟩
  case round =>
    obtain ⟨c, hc, rfl, hst⟩ := hrel
    by_cases hc2 : c < 2
    · have hdc : decide ((c : Int) < 2) = true := by simp; omega
      have HST := Lib.hid hst
      clear hst
      obtain ⟨w0, rfl⟩ : ∃ w0 : World, w0 = wr := ⟨_, rfl⟩
      go_wp2_with fail
      go_loopw [12, 13, 50] (fun _ _ jv wr => ∃ j : Nat, j ≤ 64 ∧ jv = .int .i64 j ∧ EnRel w E Z v q R wd ht (64 * c + j) wr) (fun _ _ jv _ => 64 - (intOf jv).toNat)
      case atStart => exact ⟨0, by omega, rfl, HST.out⟩
      case round =>
        obtain ⟨j, hj, rfl, hst⟩ := hrel
        by_cases hj64 : j < 64
        · have hdj : decide ((j : Int) < 64) = true := by simp; omega
          have hun := (HL.out.below hst.bw).un (64 * c + j) (by omega)
          rw [show (64 * c + j) / 64 = c by omega, show (64 * c + j) % 64 = j by omega, show 64 * c + j = c * 64 + j by omega] at hun
          obtain ⟨hb0, hb1⟩ := base_bd c hc2 (zzAt j) (zz_lt j hj64)
          have hv : qt q c j = min (max ((baseF c (zzAt j) * sk + 50) / 100) 1) 255 := by unfold qt; rw [HSK.out]
          obtain ⟨x, hx⟩ : ∃ x, x = baseF c (zzAt j) := ⟨_, rfl⟩
          rw [← hx] at hb0 hb1 hv hun
          have hxk0 : 0 ≤ x * sk := Int.mul_nonneg hb0 hs0
          have hxk1 : x * sk ≤ 121 * 5000 := Int.mul_le_mul hb1 hs1 hs0 (by omega)
          obtain ⟨old, hold⟩ := hst.qx (64 * c + j) (by omega)
          rw [show 20 + (64 * c + j) = 20 + c * 64 + j by omega] at hold
          have hfz := hst.e.fr (20 + c * 64 + j) (by omega)
          have N := Lib.hid (fun (y : Int) (hy : y = qt q c j) => hst.set (by omega) y (by rw [hy, show (64 * c + j) / 64 = c by omega, show (64 * c + j) % 64 = j by omega]))
          have HB := Lib.hid hx
          obtain ⟨y, hy⟩ : ∃ y, y = (x * sk + 50) / 100 := ⟨_, rfl⟩
          rw [← hy] at hv
          have VAL := Lib.hid hv
          have hy0 : 0 ≤ y := by omega
          have hy1 : y ≤ 6051 := by omega
          have hyy := hy.symm
          clear hv hx hst hy
          by_cases hl1 : y < 1
          · have hd1 : decide (y < 1) = true := by simpa using hl1
            go_wp2_with fail
            go_roundw
            case rel =>
              refine ⟨j + 1, by omega, by go_num, ?_⟩
              have := N.out 1 (by rw [VAL.out]; omega)
              rw [show 20 + (64 * c + j) = 20 + c * 64 + j by omega, show 64 * c + j + 1 = 64 * c + (j + 1) by omega] at this
              exact this
            case measure => simp [intOf]; omega
          · have hd1 : decide (y < 1) = false := by simpa using hl1
            by_cases hl2 : 255 < y
            · have hd2 : decide (255 < y) = true := by simpa using hl2
              go_wp2_with fail
              go_roundw
              case rel =>
                refine ⟨j + 1, by omega, by go_num, ?_⟩
                have := N.out 255 (by rw [VAL.out]; omega)
                rw [show 20 + (64 * c + j) = 20 + c * 64 + j by omega, show 64 * c + j + 1 = 64 * c + (j + 1) by omega] at this
                exact this
              case measure => simp [intOf]; omega
            · have hd2 : decide (255 < y) = false := by simpa using hl2
              go_wp2_with fail
              go_roundw
              case rel =>
                refine ⟨j + 1, by omega, by go_num, ?_⟩
                have := N.out y (by rw [VAL.out]; omega)
                rw [show 20 + (64 * c + j) = 20 + c * 64 + j by omega, show 64 * c + j + 1 = 64 * c + (j + 1) by omega] at this
                exact this
              case measure => simp [intOf]; omega
        · obtain rfl : j = 64 := by omega
          have HST2 := Lib.hid hst
          clear hst
          rw [show ((64 : Nat) : Int) = 64 from rfl]
          go_wp2_with fail
          go_roundw
          case rel => exact ⟨c + 1, by omega, by go_num, by rw [show 64 * (c + 1) = 64 * c + 64 by omega]; exact HST2.out⟩
          case measure => simp [intOf]; omega
    · obtain rfl : c = 2 := by omega
      rw [show ((2 : Nat) : Int) = 2 from rfl]
      have hfix := hst.fix HL.out hZ HV.out
      have haway : Away v [E, Z] wr [M, p0, p1, p2] := fun m hm => by
        obtain ⟨a1, a2, a3⟩ := HA.out m hm
        have := hst.bw.size
        have := hst.hE
        exact ⟨by omega, by simp at a2 ⊢; omega, a3⟩
      have himg := HG.out.keeps (Ts := []) ⟨hst.bw.os, hst.bw.tape, hst.bw.output, hst.bw.size, fun k hk _ _ => hst.bw.block k hk, fun _ h => by cases h⟩ (by simp) (by simp) (by simp) (by simp)
      obtain ⟨y0, hy0⟩ := hst.e.bu 0 (by omega)
      obtain ⟨y1, hy1⟩ := hst.e.bu 1 (by omega)
      have f0 := hst.e.fr 2 (by omega)
      have f1 := hst.e.fr 3 (by omega)
      have hbr := ((BufRel.start [255, 216] hst.e).set (by omega) 255 rfl).set (by omega) 216 rfl
      have HST := Lib.hid hst
      have HBR := Lib.hid hbr
      have HF := Lib.hid hfix
      have HAW := Lib.hid haway
      have HIM := Lib.hid himg
      obtain ⟨s0, hs0⟩ : ∃ s0 : St, s0 = ⟨[], 0, 0⟩ := ⟨_, rfl⟩
      rw [← hs0] at HBR
      have HS0 := Lib.hid hs0
      have hl0 : s0.out.length = 0 := by rw [hs0]; rfl
      have hta := fun a w => ta_other 98 90 (by simp) (by simp) (by decide) a w
      clear hst hfix haway himg hbr hs0
      go_wp2_with fail
      refine (write_any _ E Z v s0 [255, 216] ⟨E, 2, none⟩ 2 16 HBR.out.e (by omega) (by omega) (by omega) rfl HBR.out.cells).mono ?_
      rintro e w6 ⟨rfl, v6, h6, k6⟩
      have H6 := Lib.hid h6
      have K6 := Lib.hid (HBR.out.k.trans k6)
      clear h6 k6 hy0 hy1 f0 f1 HBR
      go_wp2_with fail
      refine (dqt_any w6 E Z v6 _ q H6.out (fun c hc j hj => (HF.out.step (K6.out.to [])).qu c hc j hj) (by rw [put_len, hl0]; decide)).mono ?_
      rintro e w7 ⟨rfl, v7, h7, k7⟩
      have H7 := Lib.hid h7
      have K7 := Lib.hid (K6.out.trans k7)
      have hx7 : w7.heap[R]? = some (.cells (rectC wd ht) 88 (0, 0)) := by
        have hRl := lt_of_heap HST.out.x
        have hzl := HZ.out.lt
        have hR2 := HST.out.hR
        rw [K7.out.k.block R hRl (by simp; omega) (fun e => by have := HZ.out.row.lt e; omega)]
        exact HST.out.x
      have c0 : w7.cell? ⟨R, 0, none⟩ = some (.int .i64 0) := by rw [cell_of_row _ _ _ _ 88 (0, 0) hx7]; rfl
      have c1 : w7.cell? ⟨R, 1, none⟩ = some (.int .i64 0) := by rw [cell_of_row _ _ _ _ 88 (0, 0) hx7]; rfl
      have c2 : w7.cell? ⟨R, 2, none⟩ = some (.int .i64 wd) := by rw [cell_of_row _ _ _ _ 88 (0, 0) hx7]; rfl
      have c3 : w7.cell? ⟨R, 3, none⟩ = some (.int .i64 ht) := by rw [cell_of_row _ _ _ _ 88 (0, 0) hx7]; rfl
      clear h7 k7 hx7
      go_wp2_with fail
      refine (rsize_any w7 wd ht (by omega)).mono ?_
      rintro e w8 ⟨rfl, hb8⟩
      obtain ⟨h8, k8⟩ := H7.out.below hb8
      have H8 := Lib.hid h8
      have K8 := Lib.hid (K7.out.trans k8)
      clear h8 k8 hb8 c0 c1 c2 c3
      go_wp2_with fail
      have hlen7 := pre7 s0 hl0 q
      refine (sofColor_any w8 E Z v7 _ wd ht H8.out (by omega) (Nat.le_trans hlen7 (by omega))).mono ?_
      rintro e w9 ⟨rfl, v9, h9, k9⟩
      have H9 := Lib.hid h9
      have K9 := Lib.hid (K8.out.trans k9)
      clear h9 k9
      go_wp2_with fail
      refine (dhtColor_any w9 E Z v9 _ H9.out (Nat.le_trans (pre9 false s0 hl0 q wd ht) (by omega))).mono ?_
      rintro e w10 ⟨rfl, v10, h10, k10⟩
      have H10 := Lib.hid h10
      have K10 := Lib.hid (K9.out.trans k10)
      clear h10 k10
      go_wp2_with fail
      have hlen10 := Nat.le_trans (pre10 false s0 hl0 q wd ht) (show 3000 ≤ 1000000 by omega)
      have hkeep := HIM.out.keeps K10.out.k.fills ((HAW.out).not (by simp)) ((HAW.out).not (by simp)) ((HAW.out).not (by simp)) ((HAW.out).not (by simp))
      refine (sosYcc_any w10 E Z M p0 p1 p2 wd ht v10 _ (qt q) L0 L1 L2 H10.out (HF.out.step (K10.out.to [])) (fun c hc j hj => qt_bd q c j) hlen10 ⟨hkeep, HAW.out.step K10.out.k⟩ HF8.out).mono ?_
      rintro e w11 ⟨rfl, v11, h11, k11⟩
      have K11 := Lib.hid (K10.out.trans k11)
      have hhead := head_put false s0 HS0.out q wd ht sosC sos_false
      rw [hhead] at h11
      clear hhead hlen7 hlen10 hkeep
      obtain ⟨sz, hsz⟩ : ∃ sz : St, sz = pushBits (scanOf 16 wd ht (mcuColor (qt q) (yccP L0 wd) (yccP L1 wd) (yccP L2 wd) wd ht) ⟨⟨headL false q wd ht, 0, 0⟩, 0, 0, 0⟩).s 127 7 := ⟨_, rfl⟩
      rw [← hsz] at h11
      have hlz : sz.out.length ≤ 100000000 := len_false q (yccP L0 wd) (yccP L1 wd) (yccP L2 wd) wd ht ⟨hd2, hd4⟩ HF8.out sz hsz
      have hout : sz.out ++ [255, 217] = fileOf false q (yccP L0 wd) (yccP L1 wd) (yccP L2 wd) wd ht := bytes_false q (yccP L0 wd) (yccP L1 wd) (yccP L2 wd) wd ht sz hsz
      have HOUT := Lib.hid hout
      clear hsz hout
      obtain ⟨y0, hy0⟩ := h11.bu 0 (by omega)
      obtain ⟨y1, hy1⟩ := h11.bu 1 (by omega)
      have f0 := h11.fr 2 (by omega)
      have f1 := h11.fr 3 (by omega)
      have hbr := ((BufRel.start [255, 217] h11).set (by omega) 255 rfl).set (by omega) 217 rfl
      have HBR := Lib.hid hbr
      clear hbr h11 k11
      go_wp2_with fail
      refine (write_any _ E Z v11 sz [255, 217] ⟨E, 2, none⟩ 2 16 HBR.out.e hlz (by omega) (by omega) rfl HBR.out.cells).mono ?_
      rintro e w12 ⟨rfl, v12, h12, k12⟩
      have H12 := Lib.hid h12
      have K12 := Lib.hid (K11.out.trans (HBR.out.k.trans k12))
      clear h12 k12 hy0 hy1 f0 f1 HBR
      go_wp2_with fail
      refine (flush_any w12 E Z v12 _ H12.out).mono ?_
      rintro e w13 ⟨rfl, v13, h13, k13⟩
      have her := h13.er
      have H13 := Lib.hid h13
      have K13 := Lib.hid (K12.out.trans k13)
      clear h13 k13
      go_wp2_with fail
      go_ret
      refine ⟨rfl, v13, ?_, EncStep.since HST.out.bw K13.out HST.out.hE⟩
      rw [← HOUT.out]
      exact H13.out.z
end Go.Proofs.YtlibflbpajeeeaaDoor
