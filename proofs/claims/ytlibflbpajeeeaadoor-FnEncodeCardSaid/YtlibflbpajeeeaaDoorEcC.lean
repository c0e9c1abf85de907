/- The contract of the reference's Encoded over a picture of kind Color. Printed by wip/gen/ec.py. -/
import Derived.Test.YtlibflbpajeeeaaDoorEcPl
import Derived.Test.YtlibflbpajeeeaaDoorEcS
import Derived.Test.YtlibflbpajeeeaaDoorJStd0
import Derived.Deep.DeepCutAuto
import Derived.StillTailTactics
import Derived.IntWalk
import Derived.Laws.EntriesVeiled
namespace Go.Proofs.YtlibflbpajeeeaaDoor
open Go.RowKit Go.Sort

set_option maxRecDepth 100000 in
set_option maxHeartbeats 20000000 in
theorem encodedColor_any (w : World) (fid : FuncId) (c1 c2 : Value) (wd ht : Nat) (q : Int) (f0 f1 f2 : Nat → Nat → Int) (hq : 1 ≤ q ∧ q ≤ 100) (hen : Enters fid) (hat : AtSays w fid c1 c2 wd ht f0 f1 f2) (hd : 1 ≤ wd ∧ wd ≤ 100 ∧ 1 ≤ ht ∧ ht ≤ 100)
    (h8 : ∀ x y, (0 ≤ f0 x y ∧ f0 x y ≤ 255) ∧ (0 ≤ f1 x y ∧ f1 x y ≤ 255) ∧ (0 ≤ f2 x y ∧ f2 x y ≤ 255)) :
    Calls Tryd.prog 11 #[.int .i64 wd, .int .i64 ht, .bool false, .int .i64 q, .func (.func fid) #[] #[c1, c2], .func (.func 13) #[] #[]] w (EcPost w (fileOf false q f0 f1 f2 wd ht)) := by
  obtain ⟨cA, hcA⟩ : ∃ c, c = arrC 64 (qt q 0) := ⟨_, rfl⟩
  obtain ⟨cB, hcB⟩ : ∃ c, c = arrC 64 (qt q 1) := ⟨_, rfl⟩
  obtain ⟨cT, hcT⟩ : ∃ c, c = arrC 128 (twoF (qt q 0) (qt q 1)) := ⟨_, rfl⟩
  have hz62 := zero62
  obtain ⟨z62, hz⟩ : ∃ c, c = arrC 128 fun _ => 0 := ⟨_, rfl⟩
  rw [← hz] at hz62
  have hs0 : ∀ u, Calls Tryd.prog 19 #[.bool false, .int .i64 q] u fun e u' => e = .returned (.agg cA) ∧ Below u.heap.size u u' := fun u => by rw [hcA]; exact scaled0_any u q hq
  have hs1 : ∀ u, Calls Tryd.prog 19 #[.bool true, .int .i64 q] u fun e u' => e = .returned (.agg cB) ∧ Below u.heap.size u u' := fun u => by rw [hcB]; exact scaled1_any u q hq
  have hbt : Tryd.prog.built 62 [(0, .agg cA), (1, .agg cB)] = some cT := by rw [hcA, hcB, hcT]; exact built62 _ _
  have hT1 : cT.size = 128 := by rw [hcT]; exact arrC_size _ _
  have hZ1 : z62.size = 128 := by rw [hz]; exact arrC_size _ _
  have HBT := Lib.hid hbt
  have HS0 := Lib.hid hs0
  have HS1 := Lib.hid hs1
  have HI62 := Lib.hid (info62.trans (congrArg some hT1.symm))
  have HZS := Lib.hid (hZ1.trans hT1.symm)
  have HT1 := Lib.hid (show cT.all (·.oneCell') = true by rw [hcT]; exact arrC_one _ _)
  have HCT := Lib.hid hcT
  have HAT := Lib.hid hat
  have HEN := Lib.hid hen
  have HD := Lib.hid hd
  have H8 := Lib.hid h8
  have HQ := Lib.hid hq
  clear hcA hcB hcT hz hs0 hs1 hbt hT1 hZ1 hat hen hd h8 hq
  go_enter Tryd.func11, Tryd.ntmps11
  go_wp2_with fail
  refine (HS0.out _).mono ?_
  rintro e w1 ⟨rfl, hb1⟩
  have HB1 := Lib.hid hb1
  clear hb1
  go_wp2_with fail
  refine (HS1.out _).mono ?_
  rintro e w2 ⟨rfl, hb2⟩
  have HB2 := Lib.hid hb2
  clear hb2
  go_upto_region 4 with (first
    | ((with_reducible show wpList _ _ _ (⟨some 47, .build 62 _, _, _, _, _⟩ :: _) _ _); refine wpList_buildTo rfl 62 _ rfl _ rfl cT (Eq.trans (b := Tryd.prog.built 62 [(0, .agg cA), (1, .agg cB)]) (by kernel_rfl) HBT.out) ?_)
    | ((with_reducible show wpList _ _ _ (⟨none, .store 62 (.tmp 13) (.tmp 47), _, _, _, _⟩ :: _) _ _); refine wpList_store_new rfl 62 (.tmp 13) (.tmp 47) rfl w2.heap.size cT rfl rfl _ _ 62 rfl HI62.out HZS.out HT1.out ?_))
  obtain ⟨hM0, hTw⟩ := ec_start w w1 w2 fid c1 c2 wd ht cT HB1.out HB2.out
  generalize ((w2.alloc _).alloc _).alloc _ = W3 at hM0 hTw ⊢
  obtain ⟨A, hA⟩ : ∃ A, A = w.heap.size := ⟨_, rfl⟩
  rw [← hA] at hM0 hTw ⊢
  obtain ⟨T, hT⟩ : ∃ T, T = w2.heap.size := ⟨_, rfl⟩
  rw [← hT] at hM0 hTw ⊢
  obtain ⟨Fs, hFs⟩ : ∃ Fs, Fs = [A, A + 1, A + 1 + 1, A + 1 + 1 + 1, T] := ⟨_, rfl⟩
  rw [← hFs] at hTw
  have hTb := hM0.t
  have M0 := Lib.hid hM0
  have TW := Lib.hid hTw
  have HA := Lib.hid hA
  have HT := Lib.hid hT
  have HFS := Lib.hid hFs
  have HTB := Lib.hid hTb
  clear hM0 hTw hA hT hFs hTb HB1 HB2 hz62
  have hz60 := zero60
  obtain ⟨z60, hz⟩ : ∃ c, c = arrC 64 fun _ => 0 := ⟨_, rfl⟩
  rw [← hz] at hz60
  have hz6 : z60.size = 64 := by rw [hz]; exact arrC_size _ _
  have HZ6 := Lib.hid hz6
  clear hz hz6
  obtain ⟨bv, hbv⟩ : ∃ v, v = Value.slice (some ⟨T + 1, 0, none⟩) 2 2 := ⟨_, rfl⟩
  rw [← hbv] at TW
  rw [← hbv]
  have HBV := Lib.hid hbv
  clear hbv
  go_wp2_with ((with_reducible show wpList _ _ _ (⟨_, .load 62 (.tmp 13), _, _, _, _⟩ :: _) _ _); refine wpList_load_row rfl 62 (.tmp 13) rfl T rfl 62 cT (0, 0) _ HTB.out Tryd.underlying62 rfl HI62.out ?_)
  go_loopw [15, 16, 17, 19, 51] (fun rv _ _ _ kv wr => ∃ k : Nat, k ≤ 2 ∧ kv = .int .i64 k ∧ Two w W3 Fs bv rv [255, 216] (dqtK q k) wr) (fun _ _ _ _ kv _ => 2 - (intOf kv).toNat)
  case atStart => exact ⟨0, by omega, rfl, TW.out⟩
  case round =>
    obtain ⟨k, hk, rfl, htw⟩ := hrel
    have H := Lib.hid htw
    clear htw
    by_cases hk2 : k < 2
    · obtain ⟨cK, hcK⟩ : ∃ c, c = arrC 64 (qt q k) := ⟨_, rfl⟩
      have hix : ∀ u, (Instr.index 62 (.agg cT) (.int .i64 (k : Int))).run Tryd.prog u = .ok (.agg cK) u := fun u => by rw [HCT.out, hcK]; exact idx62 q k hk2 u
      have hcz : cK.size = 64 := by rw [hcK]; exact arrC_size _ _
      have HI := Lib.hid (info60.trans (congrArg some hcz.symm))
      have HZK := Lib.hid (HZ6.out.trans hcz.symm)
      have HK1 := Lib.hid (show cK.all (·.oneCell') = true by rw [hcK]; exact arrC_one _ _)
      have HCK := Lib.hid hcK
      have hku : IntKind.u8.wrap (k : Int) = k := by show (k : Int) % 256 = k; omega
      have hlen := dqtK_len q k
      obtain ⟨xs, hxs⟩ : ∃ xs, xs = dqtK q k := ⟨_, rfl⟩
      rw [← hxs] at H hlen
      have HXS := Lib.hid hxs
      have HLN := Lib.hid hlen
      have hk2' : decide ((k : Int) < 2) = true := by simp; omega
      clear hcK hcz hxs hlen
      obtain ⟨wo, rfl⟩ : ∃ wo : World, wo = wr := ⟨_, rfl⟩
      go_wp2_with (first
        | ((with_reducible show wpList _ _ _ (⟨none, .store 60 (.tmp 17) (.tmp 54), _, _, _, _⟩ :: _) _ _); refine wpList_store_new rfl 60 (.tmp 17) (.tmp 54) rfl wo.heap.size cK rfl rfl _ _ 60 rfl HI.out HZK.out HK1.out ?_)
        | (at_builtin; refine app5 rfl (.tmp 55) (.tmp 58) rfl _ xs rfl ((H.out.r.alloc _).alloc _) ⟨wo.heap.size + 1, 0, none⟩ 1 1 [(k : Int)] rfl rfl (by decide) ?_ (by rw [HLN.out]; omega) ?_))
      · exact news_at _ _ _ (by simp)
      intro g cap w5 hrow hgr ho hlt
      have hcb : w5.heap[wo.heap.size]? = some (.cells cK 60 (0, 0)) := by
        rw [H.out.keepR hgr (Nat.le_refl _) (by simp; omega), heap_alloc_old _ _ (by simp)]
        exact heap_alloc_new _ _
      have h5 := ((H.out.alloc _).alloc _).pushR [(k : Int)] (by simp) hrow hgr (by simpa using ho)
      have HCB := Lib.hid hcb
      have H5 := Lib.hid h5
      clear hrow hgr ho hlt hcb h5
      generalize Value.slice (some ⟨g, 0, none⟩) (xs.length + 1) cap = rv5 at H5 ⊢
      go_wp2_with ((with_reducible show wpList _ _ _ (⟨_, .load 60 (.tmp 17), _, _, _, _⟩ :: _) _ _); refine wpList_load_row rfl 60 (.tmp 17) rfl wo.heap.size rfl 60 cK (0, 0) _ HCB.out Tryd.underlying60 rfl HI.out ?_)
      clear hix
      go_loopw [15, 19, 61] (fun rv _ nv wr => ∃ n : Nat, n ≤ 64 ∧ nv = .int .i64 n ∧ Two w W3 Fs bv rv [255, 216] ((xs ++ [(k : Int)]) ++ (tabL q k).take n) wr) (fun _ _ nv _ => 64 - (intOf nv).toNat)
      case atStart => exact ⟨0, by omega, rfl, by rw [List.take_zero, List.append_nil]; exact H5.out⟩
      case round =>
        obtain ⟨n, hn, rfl, htn⟩ := hrel
        have HN := Lib.hid htn
        clear htn
        by_cases hn64 : n < 64
        · have hn' : decide ((n : Int) < 64) = true := by simp; omega
          have hix : ∀ u, (Instr.index 60 (.agg cK) (.int .i64 (n : Int))).run Tryd.prog u = .ok (.int .i64 (qt q k n)) u := fun u => index60 cK n _ hn64 (by rw [HCK.out]; exact arrC_get _ _ n hn64) u
          have hqu := qt_u8 q k n
          have htk := tabL_take q k n hn64
          obtain ⟨x, hx⟩ : ∃ x, x = qt q k n := ⟨_, rfl⟩
          rw [← hx] at hix hqu htk
          obtain ⟨ys, hys⟩ : ∃ ys, ys = (xs ++ [(k : Int)]) ++ (tabL q k).take n := ⟨_, rfl⟩
          have hyl : ys.length = 65 * k + 1 + n := by rw [hys, List.length_append, List.length_append, HLN.out, List.length_take, tabL_len]; simp; omega
          rw [← hys] at HN
          have HYS := Lib.hid hys
          have HYL := Lib.hid hyl
          have HTK := Lib.hid htk
          clear hx hys hyl htk
          go_wp2_with (at_builtin; refine app5 rfl (.tmp 64) (.tmp 67) rfl _ ys rfl (HN.out.r.alloc _) ⟨wr.heap.size, 0, none⟩ 1 1 [x] rfl rfl (by decide) ?_ (by rw [HYL.out]; omega) ?_)
          · exact news_at _ _ _ (by simp)
          intro g cap w6 hrow hgr ho hlt
          have h6 := (HN.out.alloc _).pushR [x] (by simp) hrow hgr (by simpa using ho)
          have H6 := Lib.hid h6
          clear hrow hgr ho hlt h6
          go_wp2_with fail
          go_roundw
          case rel =>
            refine ⟨n + 1, by omega, by go_num, ?_⟩
            rw [HTK.out, ← List.append_assoc, ← HYS.out]
            exact H6.out
          case measure => simp [intOf]; omega
        · obtain rfl : n = 64 := by omega
          go_wp2_with fail
          go_roundw
          case rel =>
            refine ⟨k + 1, by omega, by go_num, ?_⟩
            have := HN.out
            rw [List.take_of_length_le (by rw [tabL_len]; omega), List.append_assoc, HXS.out] at this
            exact this
          case measure => simp [intOf]; omega
    · obtain rfl : k = 2 := by omega
      have hl2 := dqtL_len q
      rw [dqtK_two] at H
      obtain ⟨xs, hxs⟩ : ∃ xs, xs = dqtL q := ⟨_, rfl⟩
      rw [← hxs] at H hl2
      have HXS := Lib.hid hxs
      have HL2 := Lib.hid hl2
      clear hxs hl2
      go_wp2_with fail
      refine (H.out.seg 219 (by rw [HL2.out]; decide) (by rw [HL2.out]; decide)).mono ?_
      rintro e w7 ⟨g7, cap7, rfl, h7, hn7⟩
      obtain ⟨ps, hps⟩ : ∃ ps, ps = segOf 219 xs := ⟨_, rfl⟩
      rw [← hps] at hn7
      have hpl : ps.length = 134 := by rw [hps, segOf_len, HL2.out]
      rw [← hps]
      have H7 := Lib.hid h7
      have HN7 := Lib.hid hn7
      have HPS := Lib.hid hps
      have HPL := Lib.hid hpl
      clear h7 hn7 hps hpl H
      go_wp2_with (at_builtin; refine app5 rfl (.tmp 71) (.tmp 73) rfl _ [255, 216] rfl H7.out.b ⟨g7, 0, none⟩ ps.length cap7 ps rfl rfl (by rw [HPL.out]; decide) HN7.out (by rw [HPL.out]; decide) ?_)
      intro g cap w8 hrow hgr ho hlt
      have h8 := H7.out.pushB ps (by simp) hrow hgr ho
      have hm8 := M0.out.same (W' := w8) (fun b hb => (h8.f b (by rw [HFS.out]; exact hb)).2)
      obtain ⟨hs1, hs2⟩ : (([255, 216] : List Int) ++ ps).length = 136 ∧ True := ⟨by rw [List.length_append, HPL.out]; rfl, trivial⟩
      obtain ⟨bs8, hbs8⟩ : ∃ bs, bs = ([255, 216] : List Int) ++ ps := ⟨_, rfl⟩
      rw [← hbs8] at h8 hs1
      have hwc := hm8.wc
      have hhc := hm8.hc
      have H8w := Lib.hid h8
      have HM8 := Lib.hid hm8
      have HBS8 := Lib.hid hbs8
      have HBL8 := Lib.hid hs1
      clear hrow hgr ho hlt h8 hm8 hs1 hs2 hbs8
      generalize Value.slice (some ⟨g, 0, none⟩) (([255, 216] : List Int).length + ps.length) cap = bv8 at H8w ⊢
      obtain ⟨hd1, hd2, hd3, hd4⟩ := HD.out
      go_wp2_with (at_builtin; refine app5 rfl (.tmp 93) (.tmp 94) rfl _ [8, (ht : Int) / 256, (ht : Int), (wd : Int) / 256, (wd : Int), 3] rfl ((H8w.out.lit [8, (ht : Int) / 256, (ht : Int), (wd : Int) / 256, (wd : Int), 3] (by simp)).alloc _).r ⟨w8.heap.size + 1, 0, none⟩ 9 9 [1, 34, 0, 2, 17, 1, 3, 17, 1] rfl rfl (by decide) (news_list (w8.alloc _) [1, 34, 0, 2, 17, 1, 3, 17, 1] _ (by simp)) (by simp) ?_)
      intro g cap w9 hrow hgr ho hlt
      have h9 := ((H8w.out.lit [8, (ht : Int) / 256, (ht : Int), (wd : Int) / 256, (wd : Int), 3] (by simp)).alloc (.cells #[.int .u8 1, .int .u8 34, .int .u8 0, .int .u8 2, .int .u8 17, .int .u8 1, .int .u8 3, .int .u8 17, .int .u8 1] 5)).pushR [1, 34, 0, 2, 17, 1, 3, 17, 1] (by simp) hrow hgr (by simpa using ho)
      rw [show ([8, (ht : Int) / 256, (ht : Int), (wd : Int) / 256, (wd : Int), 3] ++ [1, 34, 0, 2, 17, 1, 3, 17, 1] : List Int) = sofL false wd ht from (sofL_eq false wd ht ⟨hd2, hd4⟩).symm] at h9
      have hsl := sofL_le false wd ht
      have hsp : 0 < (sofL false wd ht).length := by unfold sofL; split <;> simp
      obtain ⟨xs9, hxs9⟩ : ∃ xs, xs = sofL false wd ht := ⟨_, rfl⟩
      rw [← hxs9] at h9 hsl hsp
      have H9 := Lib.hid h9
      have HXS9 := Lib.hid hxs9
      clear hrow hgr ho hlt h9 hxs9 hwc hhc
      generalize Value.slice (some ⟨g, 0, none⟩) _ cap = rv9 at H9 ⊢
      go_wp2_with fail
      refine (H9.out.seg 192 hsp (by omega)).mono ?_
      rintro e w10 ⟨g10, cap10, rfl, h10, hn10⟩
      obtain ⟨ps10, hps10⟩ : ∃ ps, ps = segOf 192 xs9 := ⟨_, rfl⟩
      rw [← hps10] at hn10
      have hpl10 : 0 < ps10.length ∧ ps10.length ≤ 30 := by rw [hps10, segOf_len]; omega
      obtain ⟨hpl10a, hpl10b⟩ := hpl10
      rw [← hps10]
      have H10 := Lib.hid h10
      have HN10 := Lib.hid hn10
      have HPS10 := Lib.hid hps10
      clear h10 hn10 hps10
      go_wp2_with (at_builtin; refine app5 rfl (.tmp 96) (.tmp 98) rfl _ bs8 rfl H10.out.b ⟨g10, 0, none⟩ ps10.length cap10 ps10 rfl rfl hpl10a HN10.out (by rw [HBL8.out]; omega) ?_)
      intro g cap w11 hrow hgr ho hlt
      have h11 := H10.out.pushB ps10 (by simp) hrow hgr ho
      have hb11 : (bs8 ++ ps10).length ≤ 200 := by rw [List.length_append, HBL8.out]; omega
      obtain ⟨bs11, hbs11⟩ : ∃ bs, bs = bs8 ++ ps10 := ⟨_, rfl⟩
      rw [← hbs11] at h11 hb11
      have H11 := Lib.hid h11
      have HBS11 := Lib.hid hbs11
      clear hrow hgr ho hlt h11 hbs11 hpl10a hpl10b hsl hsp
      generalize Value.slice (some ⟨g, 0, none⟩) (bs8.length + ps10.length) cap = bv11 at H11 ⊢
      go_wp2_with fail
      refine (standard0_any _).mono ?_
      rintro e x1 ⟨C0, v0, rfl, a1, a2, a3, a4, a5, a6⟩
      have S0 := Lib.hid (And.intro (And.intro a1 a2) (And.intro a6 (And.intro a5 a4)))
      clear a1 a2 a3 a4 a5 a6
      go_wp2_with fail
      refine (standard1_any _).mono ?_
      rintro e x2 ⟨C1, v1, rfl, a1, a2, a3, a4, a5, a6⟩
      have S1 := Lib.hid (And.intro (And.intro a1 a2) (And.intro a6 (And.intro a5 a4)))
      clear a1 a2 a3 a4 a5 a6
      go_wp2_with fail
      refine (standard2_any _).mono ?_
      rintro e x3 ⟨C2, v2, rfl, a1, a2, a3, a4, a5, a6⟩
      have S2 := Lib.hid (And.intro (And.intro a1 a2) (And.intro a6 (And.intro a5 a4)))
      clear a1 a2 a3 a4 a5 a6
      go_wp2_with fail
      refine (standard3_any _).mono ?_
      rintro e x4 ⟨C3, v3, rfl, a1, a2, a3, a4, a5, a6⟩
      have S3 := Lib.hid (And.intro (And.intro a1 a2) (And.intro a6 (And.intro a5 a4)))
      clear a1 a2 a3 a4 a5 a6
      obtain ⟨hca, hcb, hcf⟩ := codes_join S0.out.1 S1.out.2.1 S1.out.1 S2.out.2.1 S2.out.1 S3.out.2.1 S3.out.1 S0.out.2.1 S0.out.2.2 S1.out.2.2 S2.out.2.2 S3.out.2.2
      obtain ⟨C, hC⟩ : ∃ C, C = fn4 C0 C1 C2 C3 := ⟨_, rfl⟩
      obtain ⟨V, hV⟩ : ∃ V, V = fn4 v0 v1 v2 v3 := ⟨_, rfl⟩
      rw [← hC, ← hV] at hca hcf
      have HCA := Lib.hid hca
      have HCB := Lib.hid hcb
      have HCF := Lib.hid hcf
      have HC := Lib.hid hC
      clear hca hcb hcf hC hV S0 S1 S2 S3
      go_upto_region 24 with fail
      obtain ⟨q1, q2, q3, q4⟩ := ec_codes H11.out HCB.out HCA.out HCF.out
      have hm5 := M0.out.same (fun b hb => q4 b (by rw [HFS.out]; exact hb))
      obtain ⟨pc, hpc⟩ : ∃ pc, pc = ptrC C := ⟨_, rfl⟩
      have hpl : #[Value.pointer (some ⟨C0, 0, none⟩), Value.pointer (some ⟨C1, 0, none⟩), Value.pointer (some ⟨C2, 0, none⟩), Value.pointer (some ⟨C3, 0, none⟩)] = pc := by rw [hpc, HC.out]; rfl
      have hip := info66 C
      rw [← hpc] at q1 q2 q3 hm5 hip
      rw [hpl]
      obtain ⟨W5, hW5⟩ : ∃ W5, W5 = x4.alloc (.cells pc 66) := ⟨_, rfl⟩
      rw [← hW5] at q1 q2 q3 hm5
      rw [← hW5]
      obtain ⟨Ab, hAb⟩ : ∃ Ab, Ab = x4.heap.size := ⟨_, rfl⟩
      rw [← hAb] at q1 q3
      rw [← hAb]
      obtain ⟨Gs, hGs⟩ : ∃ Gs, Gs = Fs ++ (Ab :: codeBks C V) := ⟨_, rfl⟩
      rw [← hGs] at q1
      have H12 := Lib.hid q1
      have HCA5 := Lib.hid q2
      have HPC5 := Lib.hid q3
      have HM5 := Lib.hid hm5
      have HPC := Lib.hid hpc
      have HIP := Lib.hid hip
      have HGS := Lib.hid hGs
      have HAB := Lib.hid (show Ab < W5.heap.size by rw [hW5, hAb]; simp)
      clear q1 q2 q3 q4 hm5 hpc hpl hip hW5 hAb hGs HCA HCB HCF HC
      go_wp2_with ((with_reducible show wpList _ _ _ (⟨_, .load 66 (.tmp 21), _, _, _, _⟩ :: _) _ _); refine wpList_load_row rfl 66 (.tmp 21) rfl Ab rfl 66 pc (0, 0) _ ((heap_alloc_old _ _ HAB.out).trans HPC5.out) Tryd.underlying66 rfl HIP.out ?_)
      have h13 := H12.out.lit [] (by simp)
      have H13 := Lib.hid h13
      clear h13
      go_loopw [15, 22, 23, 24, 26, 107] (fun rv _ _ _ _ kv wr => ∃ k : Nat, k ≤ 4 ∧ kv = .int .i64 k ∧ Two w W5 Gs bv11 rv bs11 (dhtN k) wr) (fun _ _ _ _ _ kv _ => 4 - (intOf kv).toNat)
      case atStart => exact ⟨0, by omega, rfl, H13.out⟩
      case round =>
        obtain ⟨k, hk, rfl, htw⟩ := hrel
        have H := Lib.hid htw
        clear htw H13
        by_cases hk2 : k < 4
        · have hk4 : k < 4 := by omega
          have hix : ∀ u, (Instr.index 66 (.agg pc) (.int .i64 (k : Int))).run Tryd.prog u = .ok (.pointer (some ⟨C k, 0, none⟩)) u := fun u => by rw [HPC.out]; exact idx66 C k hk4 u
          have hkt : decide ((k : Int) < 4) = true := by simp; omega
          have htb := tbB_eq k hk4
          have htu := tbB_u8 k hk4
          have hlen : (dhtN k).length ≤ 416 := dhtN_len_le k (by omega)
          have hdn : dhtN (k + 1) = dhtN k ++ hufL k := rfl
          obtain ⟨tb, hb⟩ : ∃ b, b = tbB k := ⟨_, rfl⟩
          obtain ⟨Ck, hCk⟩ : ∃ c, c = C k := ⟨_, rfl⟩
          obtain ⟨xs, hxs⟩ : ∃ xs, xs = dhtN k := ⟨_, rfl⟩
          rw [← hb] at htb htu
          rw [← hCk] at hix
          rw [← hxs] at H hlen hdn
          have HTBK := Lib.hid hb
          have HCK := Lib.hid hCk
          have HDN := Lib.hid hdn
          clear hb hCk hxs hdn
          obtain ⟨wo, rfl⟩ : ∃ wo : World, wo = wr := ⟨_, rfl⟩
          go_wp2_with (at_builtin; refine app5 rfl (.tmp 116) (.tmp 124) rfl _ xs rfl (H.out.r.alloc _) ⟨wo.heap.size, 0, none⟩ 1 1 [tb] rfl rfl (by decide) ?_ (by omega) ?_)
          · exact news_at _ _ _ rfl
          intro g cap w6 hrow hgr ho hlt
          have h6 := (H.out.alloc _).pushR [tb] (by simp) hrow hgr (by simpa using ho)
          obtain ⟨ys, hys⟩ : ∃ ys, ys = xs ++ [tb] := ⟨_, rfl⟩
          have hyl : ys.length ≤ 417 := by rw [hys, List.length_append]; simp; omega
          rw [← hys] at h6
          have H6 := Lib.hid h6
          have HYS := Lib.hid hys
          clear hrow hgr ho hlt h6 hys hlen hix htb htu
          generalize Value.slice (some ⟨g, 0, none⟩) (xs.length + 1) cap = rv6 at H6 ⊢
          go_wp2_with fail
          go_loopw [15, 24] (fun rv lv wr => ∃ n : Nat, n ≤ 16 ∧ lv = .int .i64 ((n : Int) + 1) ∧ Two w W5 Gs bv11 rv bs11 (ys ++ (cntL k).take n) wr) (fun _ lv _ => 17 - (intOf lv).toNat)
          case atStart => exact ⟨0, by omega, rfl, by rw [List.take_zero, List.append_nil]; exact H6.out⟩
          case round =>
            obtain ⟨n, hn, rfl, htn⟩ := hrel
            have HN := Lib.hid htn
            clear htn
            by_cases hn16 : n < 16
            · have hle : decide ((n : Int) + 1 ≤ 16) = true := by simp; omega
              have hl17 : (n : Int) + 1 < 17 := by omega
              have hcell := (code_cells (codes_at HN.out HCA5.out HGS.out) k hk4).1 n hn16
              rw [← HCK.out] at hcell
              have hcb := (cnt_bd k hk4 n hn16).1
              have htk := cntL_take k n hk4 hn16
              obtain ⟨x, hx⟩ : ∃ x : Int, x = (cntN k n : Int) := ⟨_, rfl⟩
              have hxu : IntKind.u8.wrap x = x := by show x % 256 = x; omega
              rw [← hx] at hcell htk
              obtain ⟨zs, hzs⟩ : ∃ zs, zs = ys ++ (cntL k).take n := ⟨_, rfl⟩
              have hzl : zs.length ≤ 433 := by rw [hzs, List.length_append, List.length_take]; omega
              rw [← hzs] at HN
              have HZS2 := Lib.hid hzs
              have HTK := Lib.hid htk
              clear hx hzs htk hcb
              go_wp2_with (at_builtin; refine app5 rfl (.tmp 130) (.tmp 138) rfl _ zs rfl (HN.out.r.alloc _) ⟨wr.heap.size, 0, none⟩ 1 1 [x] rfl rfl (by decide) ?_ (by omega) ?_)
              · exact news_at _ _ _ rfl
              intro g cap w7 hrow hgr ho hlt
              have h7 := (HN.out.alloc _).pushR [x] (by simp) hrow hgr (by simpa using ho)
              have H7 := Lib.hid h7
              clear hrow hgr ho hlt h7 hcell
              go_wp2_with fail
              go_roundw
              case rel =>
                refine ⟨n + 1, by omega, by go_num, ?_⟩
                rw [HTK.out, ← List.append_assoc, ← HZS2.out]
                exact H7.out
              case measure => simp [intOf]; omega
            · obtain rfl : n = 16 := by omega
              rw [show (((16 : Nat) : Int) + 1) = 17 from rfl]
              obtain ⟨_, gs, cap0, hv, hc17, hcs⟩ := code_cells (codes_at HN.out HCA5.out HGS.out) k hk4
              rw [← HCK.out, hv] at hc17
              have hVb := codeBks_V C V k hk4 gs (by rw [hv]; rfl)
              have hL := (std_total k hk4).2
              have htk : (cntL k).take 16 = cntL k := List.take_of_length_le (by rw [hL.2.2]; omega)
              rw [htk] at HN
              obtain ⟨L, hLe⟩ : ∃ L, L = (sgL k).length := ⟨_, rfl⟩
              rw [← hLe] at hc17 hL
              obtain ⟨hL1, hL2, hL3⟩ := hL
              obtain ⟨zs, hzs⟩ : ∃ zs, zs = ys ++ cntL k := ⟨_, rfl⟩
              have hzl : zs.length ≤ 433 := by rw [hzs, List.length_append]; omega
              rw [← hzs] at HN
              have HZS2 := Lib.hid hzs
              have HLE := Lib.hid hLe
              have HVB := Lib.hid hVb
              have HV := Lib.hid hv
              clear hv hVb hzs hLe hcs hL3 htk
              obtain ⟨w8', rfl⟩ : ∃ w8' : World, w8' = wr := ⟨_, rfl⟩
              go_wp2_with fail
              clear hc17
              go_loopw [15, 26, 145] (fun rv _ iv wr => ∃ i : Nat, i ≤ L ∧ iv = .int .i64 i ∧ Two w W5 Gs bv11 rv bs11 (zs ++ (sgL k).take i) wr) (fun _ _ iv _ => L - (intOf iv).toNat)
              case atStart => exact ⟨0, by omega, rfl, by rw [List.take_zero, List.append_nil]; exact HN.out⟩
              case round =>
                obtain ⟨i, hi, rfl, hti⟩ := hrel
                have HI := Lib.hid hti
                clear hti
                by_cases hiL : i < L
                · have hil : decide ((i : Int) < (L : Int)) = true := by simp; omega
                  have hil2 : (i : Int) < (L : Int) := by omega
                  have hiL' : i < (sgL k).length := by rw [← HLE.out]; exact hiL
                  have hcell : wr.cell? ⟨gs, i, none⟩ = some (.int .i64 (sgN k i)) := by
                    obtain ⟨_, g', cap', hv', _, hcs⟩ := code_cells (codes_at HI.out HCA5.out HGS.out) k hk4
                    have e := HV.out.symm.trans hv'
                    injection e with e1
                    injection e1 with e1
                    injection e1 with e1
                    subst e1
                    exact hcs i hiL'
                  have hsb := (sg_bd k hk4 i hiL').2.2
                  have htk := sgL_take k i hk4 hiL'
                  obtain ⟨x, hx⟩ : ∃ x : Int, x = (sgN k i : Int) := ⟨_, rfl⟩
                  have hxu : IntKind.u8.wrap x = x := by show x % 256 = x; omega
                  rw [← hx] at hcell htk
                  obtain ⟨us, hus⟩ : ∃ us, us = zs ++ (sgL k).take i := ⟨_, rfl⟩
                  have hul : us.length ≤ 700 := by rw [hus, List.length_append, List.length_take]; omega
                  rw [← hus] at HI
                  have HUS := Lib.hid hus
                  have HTK := Lib.hid htk
                  clear hx hus htk hsb hiL'
                  go_wp2_with (at_builtin; refine app5 rfl (.tmp 149) (.tmp 152) rfl _ us rfl (HI.out.r.alloc _) ⟨wr.heap.size, 0, none⟩ 1 1 [x] rfl rfl (by decide) ?_ (by omega) ?_)
                  · exact news_at _ _ _ rfl
                  intro g cap w7 hrow hgr ho hlt
                  have h7 := (HI.out.alloc _).pushR [x] (by simp) hrow hgr (by simpa using ho)
                  have H7 := Lib.hid h7
                  clear hrow hgr ho hlt h7 hcell
                  go_wp2_with fail
                  go_roundw
                  case rel =>
                    refine ⟨i + 1, by omega, by go_num, ?_⟩
                    rw [HTK.out, ← List.append_assoc, ← HUS.out]
                    exact H7.out
                  case measure => simp [intOf]; omega
                · obtain rfl : i = L := by omega
                  go_wp2_with fail
                  go_roundw
                  case rel =>
                    refine ⟨k + 1, by omega, by go_num, ?_⟩
                    have := HI.out
                    rw [HLE.out, List.take_length, HZS2.out, HYS.out] at this
                    rw [HDN.out, hufL, ← HTBK.out]
                    simpa using this
                  case measure => simp [intOf]; omega
        · obtain rfl : k = 4 := by omega
          rw [show ((4 : Nat) : Int) = 4 from rfl]
          have hdl := dhtL_le false
          have hdp : 0 < (dhtL false).length := by unfold dhtL; rw [if_neg (by simp)]; have := dht_len; omega
          have hde : dhtN 4 = dhtL false := rfl
          rw [hde] at H
          obtain ⟨xs, hxs⟩ : ∃ xs, xs = dhtL false := ⟨_, rfl⟩
          rw [← hxs] at H hdl hdp
          have HXS14 := Lib.hid hxs
          clear hde hxs
          obtain ⟨w14, rfl⟩ : ∃ w14 : World, w14 = wr := ⟨_, rfl⟩
          go_wp2_with fail
          refine (H.out.seg 196 hdp (by omega)).mono ?_
          rintro e w15 ⟨g15, cap15, rfl, h15, hn15⟩
          obtain ⟨ps15, hps15⟩ : ∃ ps, ps = segOf 196 xs := ⟨_, rfl⟩
          rw [← hps15] at hn15
          have hpl15 : 0 < ps15.length ∧ ps15.length ≤ 430 := by rw [hps15, segOf_len]; omega
          obtain ⟨hpl15a, hpl15b⟩ := hpl15
          rw [← hps15]
          have H15 := Lib.hid h15
          have HN15 := Lib.hid hn15
          have HPS15 := Lib.hid hps15
          clear h15 hn15 hps15 hdl hdp
          go_wp2_with (at_builtin; refine app5 rfl (.tmp 156) (.tmp 158) rfl _ bs11 rfl H15.out.b ⟨g15, 0, none⟩ ps15.length cap15 ps15 rfl rfl hpl15a HN15.out (by omega) ?_)
          intro g cap w16 hrow hgr ho hlt
          have h16 := H15.out.pushB ps15 (by simp) hrow hgr ho
          have hb16 : (bs11 ++ ps15).length ≤ 700 := by rw [List.length_append]; omega
          obtain ⟨bs16, hbs16⟩ : ∃ bs, bs = bs11 ++ ps15 := ⟨_, rfl⟩
          rw [← hbs16] at h16 hb16
          have H16 := Lib.hid h16
          have HBS16 := Lib.hid hbs16
          clear hrow hgr ho hlt h16 hbs16 hpl15a hpl15b
          generalize Value.slice (some ⟨g, 0, none⟩) (bs11.length + ps15.length) cap = bv16 at H16 ⊢
          have hsl := (show (sosL false).length = 10 from rfl)
          obtain ⟨so, hso⟩ : ∃ so, so = sosL false := ⟨_, rfl⟩
          have h17 : Two w W5 Gs bv16 (.slice (some ⟨w16.heap.size, 0, none⟩) 10 10) bs16 so (w16.alloc (.cells #[.int .u8 3, .int .u8 1, .int .u8 0, .int .u8 2, .int .u8 17, .int .u8 3, .int .u8 17, .int .u8 0, .int .u8 63, .int .u8 0] 5)) := by rw [hso]; exact H16.out.lit [3, 1, 0, 2, 17, 3, 17, 0, 63, 0] (by simp)
          rw [← hso] at hsl
          have hseg := h17.seg 218 (by omega) (by omega)
          have HSEG := Lib.hid hseg
          have HSO := Lib.hid hso
          clear h17 hseg hso
          go_wp2_with fail
          refine HSEG.out.mono ?_
          rintro e w18 ⟨g18, cap18, rfl, h18, hn18⟩
          obtain ⟨ps18, hps18⟩ : ∃ ps, ps = segOf 218 so := ⟨_, rfl⟩
          rw [← hps18] at hn18 ⊢
          have hpl18 : 0 < ps18.length ∧ ps18.length ≤ 20 := by rw [hps18, segOf_len]; omega
          obtain ⟨hpl18a, hpl18b⟩ := hpl18
          have H18 := Lib.hid h18
          have HN18 := Lib.hid hn18
          have HPS18 := Lib.hid hps18
          clear h18 hn18 hps18 hsl HSEG
          go_wp2_with (at_builtin; refine app5 rfl (.tmp 165) (.tmp 167) rfl _ bs16 rfl H18.out.b ⟨g18, 0, none⟩ ps18.length cap18 ps18 rfl rfl hpl18a HN18.out (by omega) ?_)
          intro g cap w19 hrow hgr ho hlt
          have h19 := H18.out.pushB ps18 (by simp) hrow hgr ho
          have hhead : bs16 ++ ps18 = headL false q wd ht := by
            rw [HBS16.out, HBS11.out, HBS8.out, HPS18.out, HPS15.out, HPS10.out, HPS.out, HSO.out, HXS14.out, HXS9.out, HXS.out]; rfl
          have hb19 : (bs16 ++ ps18).length ≤ 800 := by rw [List.length_append]; omega
          obtain ⟨hd9, hhd⟩ : ∃ bs, bs = bs16 ++ ps18 := ⟨_, rfl⟩
          rw [← hhd] at h19 hb19 hhead
          have H19 := Lib.hid h19
          have HHD := Lib.hid hhead
          clear hrow hgr ho hlt h19 hhd hhead hpl18a hpl18b
          generalize Value.slice (some ⟨g, 0, none⟩) (bs16.length + ps18.length) cap = bv at H19 ⊢
          obtain ⟨n, hn⟩ : ∃ n, n = w19.heap.size := ⟨_, rfl⟩
          have HNN := Lib.hid hn
          clear hn
          go_upto_region 46 with fail
          rw [← HNN.out]
          obtain ⟨zg, hzg⟩ : ∃ c, c = arrC 64 fun j => zzAt j := ⟨_, rfl⟩
          have hzz : ∀ u, Calls Tryd.prog 22 #[] u fun e u' => e = .returned (.agg zg) ∧ Below u.heap.size u u' := fun u => by rw [hzg]; exact zigzag_any u
          have hz1 : zg.size = 64 := by rw [hzg]; exact arrC_size _ _
          have HZZ := Lib.hid hzz
          have HZI := Lib.hid (info60.trans (congrArg some hz1.symm))
          have HZZ6 := Lib.hid (HZ6.out.trans hz1.symm)
          have HZ1 := Lib.hid (show zg.all (·.oneCell') = true by rw [hzg]; exact arrC_one _ _)
          have HZG := Lib.hid hzg
          clear hzg hzz hz1
          go_wp2_with fail
          refine (HZZ.out _).mono ?_
          rintro e x20 ⟨rfl, hx20⟩
          have hscan := ec_scan H19.out HM5.out HCT.out HCA5.out (by rw [← HPC.out]; exact HPC5.out) HFS.out HGS.out HZG.out HNN.out hx20
          have HSCAN := Lib.hid hscan
          clear hx20 hscan
          go_upto_region 53 with ((with_reducible show wpList _ _ _ (⟨none, .store 60 (.tmp 29) (.tmp 172), _, _, _, _⟩ :: _) _ _); refine wpList_store_new rfl 60 (.tmp 29) (.tmp 172) rfl x20.heap.size zg rfl rfl _ _ 60 rfl HZI.out HZZ6.out HZ1.out ?_)
          generalize (x20.alloc _).alloc _ = W20 at HSCAN ⊢
          obtain ⟨xn, hxn⟩ : ∃ n, n = x20.heap.size := ⟨_, rfl⟩
          rw [← hxn] at HSCAN
          rw [← hxn]
          clear hxn H19 H18 H16 H15 HPC HIP HAB HZI HZZ6 HZ1 HZZ HNN HN18 HN15 HN10 HN7 HSO
          obtain ⟨a0, ha0⟩ : ∃ a0 : Sc, a0 = ⟨⟨[], 0, 0⟩, 0, 0, 0⟩ := ⟨_, rfl⟩
          have hok0 : a0.Ok 0 := by rw [ha0]; exact ⟨⟨by simp, by simp, by simp⟩, by simp⟩
          rw [← ha0] at HSCAN
          obtain ⟨K, hK⟩ : ∃ K, K = ecBks A T Ab n xn := ⟨_, rfl⟩
          rw [← hK] at HSCAN
          have HK := Lib.hid hK
          have HA0 := Lib.hid ha0
          clear hK ha0
          have hQ : ∀ c, c < 2 → ∀ j, j < 64 → 1 ≤ qt q c j ∧ qt q c j ≤ 255 := fun c _ j _ => qt_bd q c j
          obtain ⟨g, hg⟩ : ∃ g, g = mcuColor (qt q) f0 f1 f2 wd ht := ⟨_, rfl⟩
          have hlok : ∀ x y k a n, a.Ok n → (mcuLuma (qt q) f0 wd ht x y k a).Ok (n + 13000) := fun x y k a n h => putBlk_ok h (by omega) hQ (blkA_size _) (lumaB_fits _ (fun x y => (H8.out x y).1) _ _ _ _)
          have hc1 : ∀ x y a n, a.Ok n → (putBlk (qt q) 1 1 (smallB f1 wd ht x y) a).Ok (n + 13000) := fun x y a n h => putBlk_ok h (by omega) hQ (smallB_size _ _ _ _ _) (smallB_fits _ (fun x y => (H8.out x y).2.1) _ _ _ _)
          have hc2 : ∀ x y a n, a.Ok n → (putBlk (qt q) 2 1 (smallB f2 wd ht x y) a).Ok (n + 13000) := fun x y a n h => putBlk_ok h (by omega) hQ (smallB_size _ _ _ _ _) (smallB_fits _ (fun x y => (H8.out x y).2.2) _ _ _ _)
          have hgok : ∀ x y a n, a.Ok n → (g x y a).Ok (n + 78000) := fun x y a n h => by rw [hg]; exact (hc2 _ _ _ _ (hc1 _ _ _ _ (iter_ok _ 13000 (fun k a n h => hlok _ _ k a n h) a n h 4))).mono (by omega)
          have hrow : ∀ r, (iter (rowOf 16 wd g) r a0).Ok (0 + 546000 * r) := iter_ok (rowOf 16 wd g) 546000 (fun r a n h => (iter_ok _ 78000 (fun c a n h => hgok _ _ a n h) a n h _).mono (by omega)) a0 _ hok0
          have hcol : ∀ r c, (iter (fun c => g (16 * c) (16 * r)) c (iter (rowOf 16 wd g) r a0)).Ok (0 + 546000 * r + 78000 * c) := fun r c => iter_ok _ 78000 (fun c a n h => hgok _ _ a n h) _ _ (hrow r) c
          have OKL := Lib.hid (And.intro hlok (And.intro hc1 hc2))
          have HQT := Lib.hid hQ
          have OKR := Lib.hid hrow
          have OKC := Lib.hid hcol
          have GE := Lib.hid hg
          clear hlok hc1 hc2
          clear hQ hok0 hg hgok hrow hcol
          go_wp2_with fail
          go_loopw [34, 35, 36, 37, 38, 39, 40, 41, 42] (fun yv _ _ _ _ _ _ _ _ wr => ∃ r : Nat, r ≤ (ht + 15) / 16 ∧ yv = .int .i64 (16 * (r : Int)) ∧ ∃ v, ScanAt w K fid c1 c2 wd ht (qt q) bv hd9 v (iter (rowOf 16 wd g) r a0) wr) (fun yv _ _ _ _ _ _ _ _ _ => ht + 16 - (intOf yv).toNat)
          case atStart => exact ⟨0, by omega, rfl, _, HSCAN.out⟩
          case round =>
            obtain ⟨r, hr, rfl, v1, hs⟩ := hrel
            have hwc : wr.cell? ⟨A, 0, none⟩ = some (.int .i64 wd) := by have := hs.p.wc; rw [HK.out] at this; exact this
            have hhc : wr.cell? ⟨A + 1, 0, none⟩ = some (.int .i64 ht) := by have := hs.p.hc; rw [HK.out] at this; exact this
            have HS := Lib.hid hs
            clear hs
            by_cases hry : 16 * r < ht
            · have hryb : decide (16 * (r : Int) < (ht : Int)) = true := by simp; omega
              obtain ⟨wo, rfl⟩ : ∃ wo : World, wo = wr := ⟨_, rfl⟩
              go_wp2_with fail
              go_loopw [35, 36, 37, 38, 39, 40, 41, 42] (fun xv _ _ _ _ _ _ _ wr => ∃ c : Nat, c ≤ (wd + 15) / 16 ∧ xv = .int .i64 (16 * (c : Int)) ∧ ∃ v, ScanAt w K fid c1 c2 wd ht (qt q) bv hd9 v (iter (fun c => g (16 * c) (16 * r)) c (iter (rowOf 16 wd g) r a0)) wr) (fun xv _ _ _ _ _ _ _ _ => wd + 16 - (intOf xv).toNat)
              case atStart => exact ⟨0, by omega, rfl, v1, HS.out⟩
              case round =>
                obtain ⟨c, hc, rfl, v2, hs⟩ := hrel
                have hwc : wr.cell? ⟨A, 0, none⟩ = some (.int .i64 wd) := by have := hs.p.wc; rw [HK.out] at this; exact this
                have hokc := OKC.out r c
                obtain ⟨ac, hac⟩ : ∃ ac, ac = iter (fun c => g (16 * c) (16 * r)) c (iter (rowOf 16 wd g) r a0) := ⟨_, rfl⟩
                have hnext : iter (fun c => g (16 * c) (16 * r)) (c + 1) (iter (rowOf 16 wd g) r a0) = g (16 * c) (16 * r) ac := by rw [hac]; rfl
                rw [← hac] at hs hokc
                have HS2 := Lib.hid hs
                have HAC := Lib.hid hac
                have HNX := Lib.hid hnext
                have HOK := Lib.hid hokc
                clear hs hac hnext hokc hhc
                by_cases hcx : 16 * c < wd
                · have hcxb : decide (16 * (c : Int) < (wd : Int)) = true := by simp; omega
                  go_wp2_with fail
                  go_loopw [36, 196] (fun _ iv wr => ∃ k : Nat, k ≤ 4 ∧ iv = .int .i64 (k : Int) ∧ ∃ v, ScanAt w K fid c1 c2 wd ht (qt q) bv hd9 v (iter (mcuLuma (qt q) f0 wd ht (16 * c) (16 * r)) k ac) wr) (fun _ iv _ => 4 - (intOf iv).toNat)
                  case atStart => exact ⟨0, by omega, rfl, v2, HS2.out⟩
                  case round =>
                    obtain ⟨k, hk, rfl, v3, hs3⟩ := hrel
                    have hokk : (iter (mcuLuma (qt q) f0 wd ht (16 * c) (16 * r)) k ac).Ok (0 + 546000 * r + 78000 * c + 13000 * k) := iter_ok _ 13000 (fun k a n h => OKL.out.1 _ _ k a n h) _ _ HOK.out k
                    obtain ⟨ak, hak⟩ : ∃ ak, ak = iter (mcuLuma (qt q) f0 wd ht (16 * c) (16 * r)) k ac := ⟨_, rfl⟩
                    have hnk : iter (mcuLuma (qt q) f0 wd ht (16 * c) (16 * r)) (k + 1) ac = mcuLuma (qt q) f0 wd ht (16 * c) (16 * r) k ak := by rw [hak]; rfl
                    rw [← hak] at hs3 hokk
                    have HS3 := Lib.hid hs3
                    have HAK := Lib.hid hak
                    have HNK := Lib.hid hnk
                    have HOKK := Lib.hid hokk
                    clear hs3 hak hnk hokk
                    by_cases hk4 : k < 4
                    · have hkb : decide ((k : Int) < 4) = true := by simp; omega
                      obtain ⟨x1, hx1⟩ : ∃ x, x = (16 * c) + k % 2 * 8 := ⟨_, rfl⟩
                      obtain ⟨y1, hy1⟩ : ∃ y, y = (16 * r) + k / 2 * 8 := ⟨_, rfl⟩
                      have hxi : 16 * (c : Int) + (k : Int) % 2 * 8 = (x1 : Int) := by omega
                      have hyi : 16 * (r : Int) + (k : Int) / 2 * 8 = (y1 : Int) := by omega
                      obtain ⟨dB, hdB⟩ : ∃ d, d = lumaB f0 wd ht x1 y1 := ⟨_, rfl⟩
                      have hdz : dB.size = 64 := by rw [hdB]; exact blkA_size _
                      have hdf : ∀ k, k < 64 → (0 : Int) ≤ dB[k]! ∧ dB[k]! ≤ (255 : Int) := by rw [hdB]; exact lumaB_fits _ (fun x y => (H8.out x y).1) _ _ _ _
                      obtain ⟨cd, hcd⟩ : ∃ c, c = dB.map i32v := ⟨_, rfl⟩
                      have hpart : Calls Tryd.prog 29 #[.int .i64 (x1 : Int), .int .i64 (y1 : Int), .int .i64 0, .pointer (some ⟨A + 1 + 1, 0, none⟩), .pointer (some ⟨A, 0, none⟩), .pointer (some ⟨A + 1, 0, none⟩)] wr fun e w' => e = .returned (.agg cd) ∧ Below wr.heap.size wr w' := by
                        have := HS3.out.part f0 f1 f2 HEN.out HAT.out HD.out f0 x1 y1 0 (by omega) rfl (fun x y => (H8.out x y).1) (by omega)
                        rw [HK.out, ← hdB, ← hcd] at this
                        exact this
                      have hput : ∀ w', Below wr.heap.size wr w' → Calls Tryd.prog 25 #[.int .i64 0, .int .i64 0, .agg cd, .pointer (some ⟨A + 1 + 1 + 1, 0, none⟩), .pointer (some ⟨T, 0, none⟩), .pointer (some ⟨n + 1 + 1, 0, none⟩), .pointer (some ⟨xn + 1, 0, none⟩), .pointer (some ⟨xn, 0, none⟩)] w' (Scanned w K fid c1 c2 wd ht (qt q) bv hd9 v3 (putBlk (qt q) 0 0 dB ak) w') := fun w' hb => by
                        have := (HS3.out.below hb).put 0 0 dB HOKK.out (by omega) (by omega) (by omega) hdz hdf HQT.out
                        rw [← hcd] at this
                        rw [HK.out] at this ⊢
                        exact this
                      have HPART := Lib.hid hpart
                      have HPUT := Lib.hid hput
                      have HDB := Lib.hid (And.intro hdB (And.intro hx1 hy1))
                      clear hdB hdz hdf hcd hpart hput hx1 hy1
                      go_wp2_with fail
                      refine HPART.out.mono ?_
                      rintro e w30 ⟨rfl, hb30⟩
                      have HB30 := Lib.hid hb30
                      clear hb30
                      go_wp2_with fail
                      refine (HPUT.out w30 HB30.out).mono ?_
                      rintro e w31 ⟨rfl, v4, hs4, _⟩
                      have HS4 := Lib.hid hs4
                      clear hs4
                      go_wp2_with fail
                      go_roundw
                      case rel =>
                        refine ⟨k + 1, by omega, by go_num, v4, ?_⟩
                        rw [HNK.out]
                        unfold mcuLuma
                        rw [← HDB.out.2.1, ← HDB.out.2.2, ← HDB.out.1]
                        exact HS4.out
                      case measure => simp [intOf]; omega
                    · obtain rfl : k = 4 := by omega
                      rw [show ((4 : Nat) : Int) = 4 from rfl]
                      have hz79 := zero79
                      obtain ⟨z79, hz⟩ : ∃ c, c = arr32 64 fun _ => 0 := ⟨_, rfl⟩
                      rw [← hz] at hz79
                      have hz1 : z79.size = 64 := by rw [hz]; exact arr32_size _ _
                      have HZ79 := Lib.hid (And.intro hz hz1)
                      have HZI := Lib.hid (info79.trans (congrArg some hz1.symm))
                      have HZ1 := Lib.hid (show z79.all (·.oneCell') = true by rw [hz]; exact arr32_one _ _)
                      have HBU := Lib.hid (show Tryd.prog.built 79 [] = some z79 by rw [hz]; exact built79)
                      clear hz hz1
                      have hcok := chromaS_ok (qt q) HQT.out f1 f2 (fun x y => (H8.out x y).2.1) (fun x y => (H8.out x y).2.2) wd ht (16 * c) (16 * r) ak _ HOKK.out
                      have HCOK := Lib.hid hcok
                      clear hcok
                      go_wp2_with fail
                      go_loopw [37, 38, 39, 40, 41, 42] (fun cv _ _ _ _ _ wr => ∃ j : Nat, j ≤ 2 ∧ cv = .int .i64 ((j : Int) + 1) ∧ ∃ v, ScanAt w K fid c1 c2 wd ht (qt q) bv hd9 v (chromaS (qt q) f1 f2 wd ht (16 * c) (16 * r) ak j) wr) (fun cv _ _ _ _ _ _ => 3 - (intOf cv).toNat)
                      case atStart => exact ⟨0, by omega, rfl, v3, HS3.out⟩
                      case round =>
                        obtain ⟨j, hj, rfl, v5, hs5⟩ := hrel
                        have hokj := HCOK.out j
                        have hnj : chromaS (qt q) f1 f2 wd ht (16 * c) (16 * r) ak (j + 1) = putBlk (qt q) (j + 1) 1 (smallB (chromaF f1 f2 j) wd ht (16 * c) (16 * r)) (chromaS (qt q) f1 f2 wd ht (16 * c) (16 * r) ak j) := rfl
                        obtain ⟨aj, haj⟩ : ∃ a, a = chromaS (qt q) f1 f2 wd ht (16 * c) (16 * r) ak j := ⟨_, rfl⟩
                        rw [← haj] at hs5 hokj hnj
                        have HS5 := Lib.hid hs5
                        have HAJ := Lib.hid haj
                        have HNJ := Lib.hid hnj
                        have HOKJ := Lib.hid hokj
                        clear hs5 haj hnj hokj
                        by_cases hj2 : j < 2
                        · have hjb : decide ((j : Int) + 1 < 3) = true := by simp; omega
                          obtain ⟨ff, hff⟩ : ∃ f, f = chromaF f1 f2 j := ⟨_, rfl⟩
                          have hf8 : ∀ x y, 0 ≤ ff x y ∧ ff x y ≤ 255 := by rw [hff]; exact chroma_fits f1 f2 (fun x y => (H8.out x y).2.1) (fun x y => (H8.out x y).2.2) j
                          have hfp : ff = fun x y => pick (j + 1) (f0 x y) (f1 x y) (f2 x y) := hff.trans (chroma_pick f0 f1 f2 j hj2)
                          rw [← hff] at HNJ
                          have HFP := Lib.hid hfp
                          have HF8 := Lib.hid hf8
                          clear hff hf8 hfp
                          obtain ⟨W0, rfl⟩ : ∃ W0 : World, W0 = wr := ⟨_, rfl⟩
                          go_wp2_with (first
                            | ((with_reducible show wpList _ _ _ (⟨some 218, .build 79 _, _, _, _, _⟩ :: _) _ _); refine wpList_buildTo rfl 79 _ rfl _ rfl z79 (Eq.trans (b := Tryd.prog.built 79 []) (by kernel_rfl) HBU.out) ?_)
                            | ((with_reducible show wpList _ _ _ (⟨none, .store 79 (.tmp 38) (.tmp 218), _, _, _, _⟩ :: _) _ _); refine wpList_store_new rfl 79 (.tmp 38) (.tmp 218) rfl W0.heap.size z79 rfl rfl _ _ 79 rfl HZI.out rfl HZ1.out ?_))
                          obtain ⟨NB, hNB⟩ : ∃ B, B = W0.heap.size := ⟨_, rfl⟩
                          have hb1 : Below W0.heap.size W0 (W0.alloc (.cells z79 79)) := (Below.refl _ _).alloc (Nat.le_refl _) _
                          have ha1 : Arr32 (W0.alloc (.cells z79 79)) NB 79 64 (smF ff wd ht (16 * c) (16 * r) 0) := by
                            rw [hNB]
                            unfold Arr32
                            rw [heap_alloc_new, HZ79.out.1]
                            exact congrArg (fun c => some (Obj.cells c 79 (0, 0))) (arr32_congr fun u hu => (smF_zero ff wd ht (16 * c) (16 * r) u hu).symm)
                          rw [← hNB]
                          generalize W0.alloc (.cells z79 79) = W1 at hb1 ha1 ⊢
                          have HB1 := Lib.hid hb1
                          have HA1 := Lib.hid ha1
                          have HNB := Lib.hid hNB
                          clear hb1 ha1 hNB
                          refine small_loop w W0 W1 (ecBks A T Ab n xn) fid c1 c2 wd ht q bv hd9 v5 aj f0 f1 f2 ff c r j NB _ _ _ _ _ _ _ _ _ _ _ _ _ _ _ _ _ _ _ _ _ _ _ _ _ _ _ _ _ _ _ _ _ _ _ _ _ _ _ _ _ _ _ _ _ _ _ _ _ _ _ _ _ _ _ _ _ _ _ _ _ _ _ _ _ _ _ _ _ _ _ _ _ _ _ _ _ _ _ _ _ _ _ _ _ _ _ _ _ _ _ _ _ _ _ _ _ _ _ _ _ _ _ _ _ _ _ _ _ _ _ _ _ _ _ _ _ _ _ _ _ _ _ _ _ _ _ _ _ _ _ _ _ _ _ _ _ _ _ _ _ _ _ _ _ _ _ _ _ _ _ _ _ _ _ _ _ _ _ _ _ _ _ _ _ _ _ _ _ _ _ _ _ _ _ _ _ _ _ _ _ _ _ _ _ _ _ _ _ _ _ _ _ _ _ _ _ _ _ _ _ _ _ _ _ _ _ _ _ _ _ _ _ _ _ _ _ _ _ _ _ _ _ _ _ _ _ _ _ _ _ _ _ _ _ _ _ _ _ _ _ _ _ _ _ _ _ _ _ _ _ _ _ _ _ _ _ _ _ _ _ _ _ _ _ _ _ _ _ _ _ _ _ _ _ _ _ _ _ _ _ _ _ _ _ _ _ _ _ _ _ (by rw [← HK.out]; exact HS5.out) HEN.out HAT.out HD.out hj2 HFP.out HF8.out (by omega) (by omega) HB1.out HA1.out (by rw [HNB.out]; exact Nat.le_refl _) ?_
                          intro t39 t40 t41 t42 t219 t220 t221 t222 t223 t224 t225 t226 t227 t228 t229 t230 t231 t232 t233 t234 t235 t236 t237 t238 t239 t240 t241 t242 t243 t244 t245 t246 t247 t248 t249 t250 t251 t252 t253 t254 t255 t256 t257 t258 t259 t260 t261 t262 t263 t264 t265 t266 t267 t268 t269 t270 t271 t272 t273 t274 t275 t276 t277 t278 t279 t280 t281 W3' hb3 ha3
                          dsimp only [ecBks]
                          obtain ⟨cN, hcN⟩ : ∃ z, z = (smallB ff wd ht (16 * c) (16 * r)).map i32v := ⟨_, rfl⟩
                          have hgN : W3'.heap[NB]? = some (.cells cN 79 (0, 0)) := by rw [hcN, smF_all]; exact ha3
                          have hcz : cN.size = 64 := by rw [hcN, Array.size_map]; exact smallB_size _ _ _ _ _
                          have hput : Calls Tryd.prog 25 #[.int .i64 ((j : Int) + 1), .int .i64 1, .agg cN, .pointer (some ⟨A + 1 + 1 + 1, 0, none⟩), .pointer (some ⟨T, 0, none⟩), .pointer (some ⟨n + 1 + 1, 0, none⟩), .pointer (some ⟨xn + 1, 0, none⟩), .pointer (some ⟨xn, 0, none⟩)] W3' (Scanned w K fid c1 c2 wd ht (qt q) bv hd9 v5 (putBlk (qt q) (j + 1) 1 (smallB ff wd ht (16 * c) (16 * r)) aj) W3') := by
                            have := (HS5.out.below hb3).put (j + 1) 1 (smallB ff wd ht (16 * c) (16 * r)) HOKJ.out (by omega) (by omega) (by omega) (smallB_size _ _ _ _ _) (smallB_fits _ HF8.out _ _ _ _) HQT.out
                            rw [← hcN, show ((j + 1 : Nat) : Int) = (j : Int) + 1 by omega] at this
                            rw [HK.out] at this ⊢
                            exact this
                          have HGN := Lib.hid hgN
                          have HCI := Lib.hid (info79.trans (congrArg some hcz.symm))
                          have HPUT := Lib.hid hput
                          clear hb3 ha3 hcN hgN hcz hput
                          go_wp2_with ((with_reducible show wpList _ _ _ (⟨_, .load 79 (.tmp 38), _, _, _, _⟩ :: _) _ _); refine wpList_load_row rfl 79 (.tmp 38) rfl NB rfl 79 cN (0, 0) _ HGN.out Tryd.underlying79 rfl HCI.out ?_)
                          refine HPUT.out.mono ?_
                          rintro e w32 ⟨rfl, v6, hs6, _⟩
                          have HS6 := Lib.hid hs6
                          clear hs6
                          go_wp2_with fail
                          go_roundw
                          case rel =>
                            (repeat apply Exists.intro)
                            refine ⟨⟨j + 1, by omega, by go_num, v6, ?_⟩, rfl⟩
                            rw [HNJ.out]
                            exact HS6.out
                          case measure => simp [intOf]; omega
                        · obtain rfl : j = 2 := by omega
                          rw [show (((2 : Nat) : Int) + 1) = 3 from rfl]
                          go_wp2_with fail
                          go_roundw
                          case rel =>
                            refine ⟨c + 1, by omega, by go_num, v5, ?_⟩
                            rw [HNX.out, GE.out, ← chroma_two, ← HAK.out, ← HAJ.out]
                            exact HS5.out
                          case measure => simp [intOf]; omega
                · obtain rfl : c = (wd + 15) / 16 := by omega
                  go_wp2_with fail
                  go_roundw
                  case rel =>
                    have hrw : iter (rowOf 16 wd g) (r + 1) a0 = ac := by rw [HAC.out]; rfl
                    exact ⟨r + 1, by omega, by go_num, v2, by rw [hrw]; exact HS2.out⟩
                  case measure => simp [intOf]; omega
            · obtain rfl : r = (ht + 15) / 16 := by omega
              have hryb : decide (16 * (((ht + 15) / 16 : Nat) : Int) < (ht : Int)) = false := by simp; omega
              have hlast := (OKR.out ((ht + 15) / 16)).n
              obtain ⟨s, hs⟩ : ∃ s, s = (iter (rowOf 16 wd g) ((ht + 15) / 16) a0).s := ⟨_, rfl⟩
              have hbits : s = bitsOf false q f0 f1 f2 wd ht := by
                rw [hs, HA0.out, GE.out]
                unfold bitsOf
                rw [mcu_color, if_neg (by simp)]
                rfl
              have hov : wr.cell? ⟨n + 1, 0, none⟩ = some (.pointer (some ⟨n, 0, none⟩)) := by have := HS.out.m.pm.oc; rw [HK.out] at this; exact this
              have ho : OutAt wr n v1 s := by have := HS.out.o; rw [HK.out, ← hs] at this; exact this
              rw [← hs] at hlast
              have HO := Lib.hid ho
              have HBITS := Lib.hid hbits
              have hlo : s.out.length ≤ 10000000 := by omega
              clear ho hs hbits hlast
              obtain ⟨R, hR⟩ : ∃ R : Nat, R = (ht + 15) / 16 := ⟨_, rfl⟩
              rw [← hR] at hryb HS
              rw [← hR]
              clear hR hr hry
              go_wp2_with fail
              refine (fill_any wr n v1 s HO.out (by omega)).mono ?_
              rintro e w40 ⟨rfl, v4, ho4, hk4⟩
              have hfl : fillB 8 s = fillB 8 (bitsOf false q f0 f1 f2 wd ht) := by rw [HBITS.out]
              have hpos := file_some false q f0 f1 f2 wd ht ⟨hd1, hd3⟩ (fun x y => (H8.out x y).1)
              rw [← hfl] at hpos
              have hflen := fill_len 8 s
              obtain ⟨t, ht'⟩ : ∃ t, t = fillB 8 s := ⟨_, rfl⟩
              rw [← ht'] at ho4 hpos hflen
              have hfile := file_eq false q f0 f1 f2 wd ht t (by rw [ht', HBITS.out])
              obtain ⟨e1, e2, e3, e4⟩ := HS.out.filled (v' := v4) (by rw [HK.out]; exact hk4)
              rw [HK.out] at e1
              have hov : w40.cell? ⟨n + 1, 0, none⟩ = some (.pointer (some ⟨n, 0, none⟩)) := e1
              obtain ⟨g4, cap4, rfl, _, hn4⟩ := ho4.row.news (by rw [List.length_map]; exact hpos)
              rw [List.length_map] at ho4 hk4 e4
              have hob := ho4.b
              have HR4 := Lib.hid e2
              have HB4 := Lib.hid e3
              have HN4 := Lib.hid hn4
              have HFILE := Lib.hid hfile
              obtain ⟨tl, htl⟩ : ∃ l, l = t.out.length := ⟨_, rfl⟩
              rw [← htl] at hob hpos hflen
              have HTL := Lib.hid htl
              have HBO := Lib.hid HS.out.bo
              have hhl : hd9.length ≤ 800 := hb19
              have hh0 : 0 < hd9.length := by rw [HHD.out]; simp [headL]
              clear ho4 hk4 e1 e2 e3 e4 hn4 hfile hfl ht' htl HS HPS10 HPS15 HPS18 HK
              go_wp2_with (first
                | (at_builtin; refine app5 rfl (.tmp 288) (.tmp 292) rfl _ hd9 rfl HR4.out ⟨g4, 0, none⟩ tl cap4 t.out rfl HTL.out.symm hpos HN4.out (by omega) ?_))
              intro g5 cap5 w41 hrow5 hgr5 ho5 hlt5
              have H5 := Lib.hid (And.intro hrow5 (And.intro hgr5 ho5))
              clear hrow5 hgr5 ho5 hlt5 hov hob
              have HXL : Hid ((hd9 ++ t.out).length = hd9.length + tl) := by rw [List.length_append, HTL.out]; rfl
              obtain ⟨n5, hn5⟩ : ∃ m, m = hd9.length + tl := ⟨_, rfl⟩
              rw [← hn5] at H5 HXL
              rw [← hn5]
              have HN5 := Lib.hid hn5
              have hn5b : n5 ≤ 100000000 := by omega
              clear hn5
              have HR5 : Hid (RowAt w41 5 (.slice (some ⟨g5, 0, none⟩) n5 cap5) ((hd9 ++ t.out).map u8v)) := by rw [List.map_append]; exact H5.out.1
              obtain ⟨ys, hys⟩ : ∃ ys, ys = hd9 ++ t.out := ⟨_, rfl⟩
              rw [← hys] at HR5 HXL
              have HYS := Lib.hid hys
              clear hys
              go_wp2_with (at_builtin; refine app5 rfl (.tmp 293) (.tmp 294) rfl _ ys rfl (HR5.out.alloc _) ⟨w41.heap.size, 0, none⟩ 2 2 [255, 217] rfl rfl (by decide) ?_ (by rw [HXL.out]; omega) ?_)
              · exact news_list w41 [255, 217] _ rfl
              intro g6 cap6 w42 hrow6 hgr6 ho6 hlt6
              have hfin := ec_last (file := fileOf false q f0 f1 f2 wd ht) (hd := hd9) (out := t.out) (n2 := ys.length + 2) HB4.out HBO.out H5.out.2.1 H5.out.2.2 hrow6 (by rw [← HYS.out]; simp) (by rw [HXL.out, HN5.out, HTL.out]) hgr6 (by rw [HHD.out]; exact HFILE.out)
              have HFIN := Lib.hid hfin
              clear hrow6 hgr6 ho6 hlt6 hfin
              go_wp2_with fail
              go_ret
              exact HFIN.out
end Go.Proofs.YtlibflbpajeeeaaDoor
