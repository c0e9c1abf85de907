/- The contract of the reference's standard (luma, first numbers). Printed by wip/gen/std.py. The contract of the reference's standard (luma, others). Printed by wip/gen/std.py. The contract of the reference's standard (chroma, first numbers). Printed by wip/gen/std.py. The contract of the reference's standard (chroma, others). Printed by wip/gen/std.py. (Joined by wip/gen/merge.py.) -/
import Derived.Test.YtlibflbpajeeeaaDoorStdPl
import Derived.RegionTactic
import Derived.BigRegion
import Derived.Great.BuildSlice
namespace Go.Proofs.YtlibflbpajeeeaaDoor
open Go.RowKit
def bs0 : ByteArray := ⟨#[0, 1, 5, 1, 1, 1, 1, 1, 1, 0, 0, 0, 0, 0, 0, 0]⟩
theorem bs0_at : ∀ n, (hn : n < bs0.size) → (bs0[n]'hn).toNat = cntN 0 n := by decide +kernel
theorem idx0 (n : Nat) (hn : n < 16) (w : World) : (Instr.index 9 (.string ⟨#[0, 1, 5, 1, 1, 1, 1, 1, 1, 0, 0, 0, 0, 0, 0, 0]⟩) (.int .i64 (n : Int))).run Tryd.prog w = .ok (.int .u8 (cntN 0 n : Int)) w := by
  have hs : n < bs0.size := hn
  have h := run_index_string (P := Tryd.prog) (w := w) 9 bs0 .i64 (n : Int) Tryd.underlying9
  rw [dif_pos ⟨by omega, by omega⟩] at h
  rw [← bs0_at n hs]
  exact h
theorem sg12_0 : ∀ k, k < 12 → (sgL 0).take (k + 1) = (sgL 0).take k ++ [(k : Int)] := by decide +kernel

set_option maxRecDepth 100000 in
set_option maxHeartbeats 4000000 in
theorem standard0_any (w : World) : Calls Tryd.prog 21 #[.int .i64 0, .bool false] w fun e w' => ∃ C v, e = .returned (.pointer (some ⟨C, 0, none⟩)) ∧ CodesAt w' C v (cntF 0 16) (codeOf 0) (fun s => wideOf 0 s) ∧ RowAt w' 3 v ((sgL 0).map i64v) ∧ v.ownBlock ≠ some C ∧ (∀ g, v.ownBlock = some g → w.heap.size ≤ g) ∧ w.heap.size ≤ C ∧ Below w.heap.size w w' := by
  have hz := zero71
  obtain ⟨zs, hzs⟩ : ∃ zs, zs = codes0 := ⟨_, rfl⟩
  rw [← hzs] at hz
  have HS := Lib.hid hzs
  clear hzs
  go_enter Tryd.func21, Tryd.ntmps21
  go_wp2_with fail
  go_loopw [6, 7, 22] (fun sv _ kv wr => ∃ k : Nat, k ≤ 12 ∧ kv = .int .i64 k ∧ RowAt wr 3 sv (((sgL 0).take k).map i64v) ∧ (∀ g, sv.ownBlock = some g → w.heap.size ≤ g) ∧ Below w.heap.size w wr) (fun _ _ kv _ => 12 - (intOf kv).toNat)
  case atStart => exact ⟨0, by omega, rfl, RowAt.lit w #[] 3 (by simp), fun g hg => by simp [Value.ownBlock] at hg; omega, (Below.refl _ _).alloc (Nat.le_refl _) _⟩
  case round =>
    obtain ⟨k, hk, rfl, h1, h2, h3⟩ := hrel
    by_cases hk12 : k < 12
    · have hel := sg12_0 k hk12
      obtain ⟨xs, hxs⟩ : ∃ xs, xs = (sgL 0).take k := ⟨_, rfl⟩
      rw [← hxs] at h1 hel
      have hxl : xs.length ≤ 12 := by rw [hxs, List.length_take]; omega
      have H1 := Lib.hid h1
      have H2 := Lib.hid h2
      have H3 := Lib.hid h3
      have HEL := Lib.hid hel
      clear h1 h2 h3 hel hxs
      go_wp2_with (at_builtin; refine app3 rfl _ _ rfl _ xs rfl (H1.out.alloc _) ⟨wr.heap.size, 0, none⟩ 1 1 [(k : Int)] rfl rfl (by decide) (news_lit _ [.int .i64 (k : Int)] 3) (by omega) ?_)
      intro g cap w1 hrow hgr ho hlt
      have hrow' : RowAt w1 3 (.slice (some ⟨g, 0, none⟩) (xs.length + 1) cap) (((sgL 0).take (k + 1)).map i64v) := by rw [HEL.out, List.map_append]; exact hrow
      have h2' : ∀ g', (Value.slice (some ⟨g, 0, none⟩) (xs.length + 1) cap).ownBlock = some g' → w.heap.size ≤ g' := fun g' hg' => by
        simp [Value.ownBlock] at hg'
        subst hg'
        rcases ho with e | e
        · exact H2.out _ e
        · have := H3.out.size; omega
      have h3' := (H3.out.alloc H3.out.size (.cells #[.int .i64 (k : Int)] 3)).grown hgr (by have := H3.out.size; simp; omega) H2.out
      have D := Lib.hid (And.intro hrow' (And.intro h2' h3'))
      clear hrow hgr ho hlt hrow' h2' h3'
      go_wp2_with fail
      go_roundw
      case rel => exact ⟨k + 1, by omega, by go_num, D.out.1, D.out.2.1, D.out.2.2⟩
      case measure => simp [intOf]; omega
    · obtain rfl : k = 12 := by omega
      rw [show ((12 : Nat) : Int) = 12 from rfl]
      obtain ⟨w0, rfl⟩ : ∃ w0 : World, w0 = wr := ⟨_, rfl⟩
      have H1 := Lib.hid (show RowAt w0 3 u6 ((sgL 0).map i64v) from h1)
      have H2 := Lib.hid h2
      have H3 := Lib.hid h3
      clear h1 h2 h3
      obtain ⟨gs, cap0, hsv, hgs⟩ : ∃ gs cap, u6 = Value.slice (some ⟨gs, 0, none⟩) 12 cap ∧ gs < w0.heap.size := by
        obtain ⟨gs, cap, h, hg, _⟩ := H1.out.news (by rw [List.length_map]; exact (std_total 0 (by omega)).2.2.1)
        exact ⟨gs, cap, h, hg⟩
      rw [hsv] at H1 H2
      rw [hsv]
      clear hsv
      have hgsw := H2.out gs rfl
      obtain ⟨sv, hsv⟩ : ∃ sv, sv = Value.slice (some ⟨gs, 0, none⟩) 12 cap0 := ⟨_, rfl⟩
      rw [← hsv] at H1 H2
      have HSV := Lib.hid hsv
      clear hsv
      go_wp2_with fail
      go_loopw [9, 10, 11] (fun cv lv _ wr => ∃ n : Nat, n ≤ 16 ∧ lv = .int .i64 ((n : Int) + 1) ∧ cv = .int .i64 (stdRun 0 n).2 ∧ StdAt w w0.heap.size sv 0 n (stdRun 0 n).1 wr) (fun _ lv _ _ => 17 - (intOf lv).toNat)
      case atStart =>
        refine ⟨0, by omega, rfl, rfl, ⟨⟨.slice none 0 0, ?_, RowAt.nil _ _, by simp [Value.ownBlock], fun g hg => by simp [Value.ownBlock] at hg⟩, H1.out.alloc _, H3.out.alloc H3.out.size _, H3.out.size, fun e => ?_⟩⟩
        · rw [HS.out]; exact CodesAt.new w0 0
        · have := H1.out.lt e; omega
      case round =>
        obtain ⟨n, hn, rfl, rfl, hst⟩ := hrel
        have HST := Lib.hid hst
        by_cases hn16 : n < 16
        · obtain ⟨v, hc, hrow, hvC, hvg⟩ := hst.c
          have hcell := hc.cnt (n + 1) (by omega)
          have hfree := hc.fr (n + 1) (by omega)
          obtain ⟨cb1, cb2, cb3, cb4, cb5⟩ := cnt_bd 0 (by omega) n hn16
          have hix := idx0 n hn16
          have hsc := std_code 0 (by omega) n hn16
          have hrun : stdRun 0 (n + 1) = ((stdRun 0 n).1 + cntN 0 n, ((stdRun 0 n).2 + cntN 0 n) * 2) := rfl
          have hcs := HST.out.cntSet hn16 1
          obtain ⟨k0, hk0⟩ : ∃ k0, k0 = (stdRun 0 n).1 := ⟨_, rfl⟩
          obtain ⟨c0, hc0⟩ : ∃ c0, c0 = (stdRun 0 n).2 := ⟨_, rfl⟩
          obtain ⟨m, hm⟩ : ∃ m, m = cntN 0 n := ⟨_, rfl⟩
          rw [← hk0] at cb3 hsc hrun hcs
          rw [← hc0] at cb4 cb5 hsc hrun
          rw [← hc0]
          rw [← hm] at cb1 cb3 cb5 hsc hrun hcs hix
          obtain ⟨old, hold⟩ : ∃ z, z = cntF 0 n (n + 1) := ⟨_, rfl⟩
          rw [← hold] at hcell
          have HSC := Lib.hid hsc
          have HRUN := Lib.hid hrun
          have HCS := Lib.hid hcs
          have hle : decide ((n : Int) + 1 ≤ 16) = true := by simp; omega
          clear hst hc hrow hvC hvg cb2 hsc hrun hcs hk0 hc0 hm hold HST
          go_wp2_with fail
          go_region
          go_wp2_with fail
          clear hcell hfree
          go_loopw [9, 11, 59] (fun cv _ iv wr => ∃ i : Nat, i ≤ m ∧ iv = .int .i64 i ∧ cv = .int .i64 (c0 + i) ∧ StdAt w w0.heap.size sv 0 (n + 1) (k0 + i) wr) (fun _ _ iv _ => m - (intOf iv).toNat)
          case atStart => exact ⟨0, by omega, rfl, by simp, HCS.out⟩
          case round =>
            obtain ⟨i, hi, rfl, rfl, hst⟩ := hrel
            by_cases him : i < m
            · have hkl : k0 + i < (sgL 0).length := by omega
              obtain ⟨v, hc, hrow, hvC, hvg⟩ := hst.c
              obtain ⟨sc1, sc2, _⟩ := HSC.out i him
              obtain ⟨sb1, sb2, sb3⟩ := sg_bd 0 (by omega) (k0 + i) hkl
              have hlen : ((sgL 0).take (k0 + i)).length = k0 + i := by rw [List.length_take]; omega
              have hcell : wr.cell? ⟨gs, k0 + i, none⟩ = some (.int .i64 (sgN 0 (k0 + i))) := by
                have := hst.s.cell (g := gs) (n := 12) (cap := cap0) HSV.out (k0 + i) (by rw [List.length_map]; exact hkl)
                rw [this, List.getElem_map]
                rw [List.getD_eq_getElem?_getD, List.getElem?_eq_getElem hkl, Option.getD_some] at sb2
                rw [sb2]; rfl
              obtain ⟨ad, vcap, hv⟩ : ∃ ad cap, v = .slice ad (k0 + i) cap := by
                rcases hrow.form with ⟨h1, h2⟩ | ⟨g, cap, h1, _⟩
                · rw [List.map_eq_nil_iff] at h2
                  rw [h2] at hlen
                  exact ⟨none, 0, by rw [h1, ← hlen]; rfl⟩
                · rw [List.length_map, hlen] at h1; exact ⟨_, cap, h1⟩
              subst hv
              have hLEN : (sgL 0).length = 12 := by decide +kernel
              have hkl2 : k0 + i < 12 := by omega
              have PUSH := Lib.hid (fun w1 g m cap o => StdAt.push (w1 := w1) (g := g) (m := m) (cap := cap) (o := o) (by omega) hkl hst hc hvC hvg)
              have hc17 := hc.sg
              have hrow' := hrow
              obtain ⟨sN, hsN⟩ : ∃ sN, sN = sgN 0 (k0 + i) := ⟨_, rfl⟩
              obtain ⟨xs, hxs⟩ : ∃ xs, xs = (sgL 0).take (k0 + i) := ⟨_, rfl⟩
              rw [← hsN] at hcell sb3 sc1 sc2 PUSH
              rw [← hxs] at hrow' hlen PUSH
              have HROW := Lib.hid hrow'
              have HLEN := Lib.hid hlen
              have HSC1 := Lib.hid (And.intro sc1 sc2)
              have hxl : xs.length ≤ 162 := by omega
              have hsz : gs < wr.heap.size := by have := hst.b.size; have := hst.s.lt (g := gs) (by rw [HSV.out]; rfl); exact this
              have hCl := hc.lt
              clear hst hc hrow hrow' hvC hvg sc1 sc2 sb1 sb2 hlen hsN hxs hLEN
              go_wp2_with (at_builtin; refine app3 rfl _ _ rfl _ xs rfl (HROW.out.alloc _) ⟨wr.heap.size, 0, none⟩ 1 1 [(sN : Int)] rfl rfl (by decide) (news_lit _ [.int .i64 (sN : Int)] 3) (by omega) ?_)
              intro g cap w1 hrow1 hgr1 ho1 hlt1
              obtain ⟨⟨p1, p2⟩, v', rfl, p3, p4⟩ := PUSH.out w1 g _ cap _ hrow1 hgr1 ho1
              have q1 := p3.cd sN sb3
              have q2 := p3.wd sN sb3
              have q3 := p3.fr (18 + sN) (by omega)
              have q4 := p3.fr (274 + sN) (by omega)
              have P4 := Lib.hid p4
              clear p3 p4 hrow1 hgr1 ho1 hlt1
              go_wp2_with fail
              go_region
              go_wp2_with fail
              go_roundw
              case rel =>
                refine ⟨i + 1, by omega, by go_num, by go_num, ?_⟩
                have := P4.out 1
                rw [HSC1.out.1, HSC1.out.2] at this
                push_cast at this
                exact this
              case measure => simp [intOf]; omega
            · obtain rfl : i = m := by omega
              have HST := Lib.hid hst
              clear hst
              go_wp2_with fail
              go_roundw
              case rel =>
                refine ⟨n + 1, by omega, by go_num, ?_, ?_⟩
                · rw [HRUN.out]
                · rw [HRUN.out]; exact HST.out
              case measure => simp [intOf]; omega
        · obtain rfl : n = 16 := by omega
          have hle : decide (((16 : Nat) : Int) + 1 ≤ 16) = false := by decide
          clear hst
          go_wp2_with fail
          go_ret
          obtain ⟨v, hc, hrow, hvC, hvg⟩ := HST.out.c
          obtain ⟨t1, t2, t3, t4⟩ := std_total 0 (by omega)
          rw [t1] at hc hrow
          rw [List.take_length] at hrow
          refine ⟨_, v, rfl, ⟨hc.cnt, hc.sg, fun s hs => ?_, fun s hs => ?_, hc.fr⟩, hrow, hvC, fun g hg => (hvg g hg).1, HST.out.hC, HST.out.b⟩
          · rw [hc.cd s hs, (cdF_all 0 s (by omega) hs).1]
          · rw [hc.wd s hs, (cdF_all 0 s (by omega) hs).2]
end Go.Proofs.YtlibflbpajeeeaaDoor

namespace Go.Proofs.YtlibflbpajeeeaaDoor
open Go.RowKit
def bs1 : ByteArray := ⟨#[0, 2, 1, 3, 3, 2, 4, 3, 5, 5, 4, 4, 0, 0, 1, 125]⟩
theorem bs1_at : ∀ n, (hn : n < bs1.size) → (bs1[n]'hn).toNat = cntN 1 n := by decide +kernel
theorem idx1 (n : Nat) (hn : n < 16) (w : World) : (Instr.index 9 (.string ⟨#[0, 2, 1, 3, 3, 2, 4, 3, 5, 5, 4, 4, 0, 0, 1, 125]⟩) (.int .i64 (n : Int))).run Tryd.prog w = .ok (.int .u8 (cntN 1 n : Int)) w := by
  have hs : n < bs1.size := hn
  have h := run_index_string (P := Tryd.prog) (w := w) 9 bs1 .i64 (n : Int) Tryd.underlying9
  rw [dif_pos ⟨by omega, by omega⟩] at h
  rw [← bs1_at n hs]
  exact h

set_option maxRecDepth 100000 in
set_option maxHeartbeats 4000000 in
theorem standard1_any (w : World) : Calls Tryd.prog 21 #[.int .i64 1, .bool false] w fun e w' => ∃ C v, e = .returned (.pointer (some ⟨C, 0, none⟩)) ∧ CodesAt w' C v (cntF 1 16) (codeOf 1) (fun s => wideOf 1 s) ∧ RowAt w' 3 v ((sgL 1).map i64v) ∧ v.ownBlock ≠ some C ∧ (∀ g, v.ownBlock = some g → w.heap.size ≤ g) ∧ w.heap.size ≤ C ∧ Below w.heap.size w w' := by
  have hz := zero71
  obtain ⟨zs, hzs⟩ : ∃ zs, zs = codes0 := ⟨_, rfl⟩
  rw [← hzs] at hz
  have HS := Lib.hid hzs
  clear hzs
  go_enter Tryd.func21, Tryd.ntmps21
  obtain ⟨fl, hfl⟩ : ∃ fl, fl = (sgL 1).take 37 := ⟨_, rfl⟩
  have hfln : fl.length = 37 := by rw [hfl]; decide +kernel
  have hall : fl ++ restL fl 256 = sgL 1 := by rw [hfl]; decide +kernel
  have hrl : (restL fl 256).length = 125 := by rw [hfl]; decide +kernel
  have HP : RowKit.Hid (∀ l : List (Nat × Operand), l = (((sgL 1).take 37).zipIdx 0).map (fun x => (x.2, Operand.const (Value.int .i64 x.1))) → l = (fl.zipIdx 0).map fun x => (x.2, Operand.const (Value.int .i64 x.1))) := fun l h => by rw [h, ← hfl]
  have HFLN := Lib.hid hfln
  have HALL := Lib.hid hall
  have HRL := Lib.hid hrl
  clear hfl hfln hall hrl
  go_wp2_with ((with_reducible show wpList _ _ _ (⟨_, .buildSlice 68 37 _, _, _, _, _⟩ :: _) _ _); refine wpList_buildFlat rfl 68 3 37 _ rfl .i64 fl Tryd.underlying68 (by kernel_rfl) (by kernel_rfl) HFLN.out.symm (by decide) (by decide) (HP.out _ (by rfl)) ?_)
  have hlit : RowAt ((w.alloc (.cells #[] 3)).alloc (.cells (fl.map (Value.int .i64)).toArray 3)) 3 (.slice (some ⟨w.heap.size + 1, 0, none⟩) 37 37) (fl.map i64v) := by
    have h := RowAt.lit (w.alloc (.cells #[] 3)) (fl.map (Value.int .i64)).toArray 3 (by simp [HFLN.out])
    simp only [List.size_toArray, List.length_map, HFLN.out] at h
    rw [show w.heap.size + 1 = (w.alloc (.cells #[] 3)).heap.size by simp]
    exact h
  refine (rest_any _ _ fl hlit (by have := HFLN.out; omega) (by have := HFLN.out; omega)).mono ?_
  rintro e w1 ⟨v1, rfl, hr1, hb1, ho1⟩
  obtain ⟨g1, cap1, hv1, hg1, hn1⟩ := hr1.news (by rw [List.length_map, HRL.out]; decide)
  rw [List.length_map, HRL.out] at hv1
  rw [hv1]
  have hl1 := hlit.same (w' := w1) fun g hg => hb1.block g (by have := hlit.lt hg; exact this)
  have HL1 := Lib.hid hl1
  have HN1 := Lib.hid hn1
  have HB1 := Lib.hid hb1
  have HFL2 := Lib.hid (show fl.length + 125 = 162 by rw [HFLN.out])
  clear hlit hl1 hn1 hb1 hr1 ho1 hv1
  go_wp2_with (at_builtin; refine app3 rfl _ _ rfl _ fl rfl HL1.out ⟨g1, 0, none⟩ 125 cap1 (restL fl 256) rfl HRL.out (by decide) HN1.out (by have := HFLN.out; omega) ?_)
  intro g2 cap2 w0 hrow2 hgr2 ho2 hlt2
  rw [← List.map_append, HALL.out] at hrow2
  rw [HFL2.out] at hrow2 ⊢
  obtain ⟨u6, hu6⟩ : ∃ u6, u6 = Value.slice (some ⟨g2, 0, none⟩) 162 cap2 := ⟨_, rfl⟩
  rw [← hu6] at hrow2
  rw [← hu6]
  have H1 := Lib.hid hrow2
  have H2 := Lib.hid (show ∀ g, u6.ownBlock = some g → w.heap.size ≤ g by
    intro g hg
    rw [hu6] at hg
    simp [Value.ownBlock] at hg ho2
    have := HB1.out.size
    simp at this
    omega)
  have H3 := Lib.hid (((((Below.refl w.heap.size w).alloc (Nat.le_refl _) (.cells #[] 3)).alloc (by simp) (.cells (fl.map (Value.int .i64)).toArray 3)).trans (HB1.out.mono (by simp; omega))).grown hgr2 (by have := HB1.out.size; simp at this; omega) (by intro g hg; simp [Value.ownBlock] at hg; omega))
  clear hrow2 hgr2 ho2 hlt2 hu6
  obtain ⟨gs, cap0, hsv, hgs⟩ : ∃ gs cap, u6 = Value.slice (some ⟨gs, 0, none⟩) 162 cap ∧ gs < w0.heap.size := by
    obtain ⟨gs, cap, h, hg, _⟩ := H1.out.news (by rw [List.length_map]; exact (std_total 1 (by omega)).2.2.1)
    exact ⟨gs, cap, h, hg⟩
  rw [hsv] at H1 H2
  rw [hsv]
  clear hsv
  have hgsw := H2.out gs rfl
  obtain ⟨sv, hsv⟩ : ∃ sv, sv = Value.slice (some ⟨gs, 0, none⟩) 162 cap0 := ⟨_, rfl⟩
  rw [← hsv] at H1 H2
  have HSV := Lib.hid hsv
  clear hsv
  go_wp2_with fail
  go_loopw [9, 10, 11] (fun cv lv _ wr => ∃ n : Nat, n ≤ 16 ∧ lv = .int .i64 ((n : Int) + 1) ∧ cv = .int .i64 (stdRun 1 n).2 ∧ StdAt w w0.heap.size sv 1 n (stdRun 1 n).1 wr) (fun _ lv _ _ => 17 - (intOf lv).toNat)
  case atStart =>
    refine ⟨0, by omega, rfl, rfl, ⟨⟨.slice none 0 0, ?_, RowAt.nil _ _, by simp [Value.ownBlock], fun g hg => by simp [Value.ownBlock] at hg⟩, H1.out.alloc _, H3.out.alloc H3.out.size _, H3.out.size, fun e => ?_⟩⟩
    · rw [HS.out]; exact CodesAt.new w0 1
    · have := H1.out.lt e; omega
  case round =>
    obtain ⟨n, hn, rfl, rfl, hst⟩ := hrel
    have HST := Lib.hid hst
    by_cases hn16 : n < 16
    · obtain ⟨v, hc, hrow, hvC, hvg⟩ := hst.c
      have hcell := hc.cnt (n + 1) (by omega)
      have hfree := hc.fr (n + 1) (by omega)
      obtain ⟨cb1, cb2, cb3, cb4, cb5⟩ := cnt_bd 1 (by omega) n hn16
      have hix := idx1 n hn16
      have hsc := std_code 1 (by omega) n hn16
      have hrun : stdRun 1 (n + 1) = ((stdRun 1 n).1 + cntN 1 n, ((stdRun 1 n).2 + cntN 1 n) * 2) := rfl
      have hcs := HST.out.cntSet hn16 1
      obtain ⟨k0, hk0⟩ : ∃ k0, k0 = (stdRun 1 n).1 := ⟨_, rfl⟩
      obtain ⟨c0, hc0⟩ : ∃ c0, c0 = (stdRun 1 n).2 := ⟨_, rfl⟩
      obtain ⟨m, hm⟩ : ∃ m, m = cntN 1 n := ⟨_, rfl⟩
      rw [← hk0] at cb3 hsc hrun hcs
      rw [← hc0] at cb4 cb5 hsc hrun
      rw [← hc0]
      rw [← hm] at cb1 cb3 cb5 hsc hrun hcs hix
      obtain ⟨old, hold⟩ : ∃ z, z = cntF 1 n (n + 1) := ⟨_, rfl⟩
      rw [← hold] at hcell
      have HSC := Lib.hid hsc
      have HRUN := Lib.hid hrun
      have HCS := Lib.hid hcs
      have hle : decide ((n : Int) + 1 ≤ 16) = true := by simp; omega
      clear hst hc hrow hvC hvg cb2 hsc hrun hcs hk0 hc0 hm hold HST
      go_wp2_with fail
      go_region
      go_wp2_with fail
      clear hcell hfree
      go_loopw [9, 11, 59] (fun cv _ iv wr => ∃ i : Nat, i ≤ m ∧ iv = .int .i64 i ∧ cv = .int .i64 (c0 + i) ∧ StdAt w w0.heap.size sv 1 (n + 1) (k0 + i) wr) (fun _ _ iv _ => m - (intOf iv).toNat)
      case atStart => exact ⟨0, by omega, rfl, by simp, HCS.out⟩
      case round =>
        obtain ⟨i, hi, rfl, rfl, hst⟩ := hrel
        by_cases him : i < m
        · have hkl : k0 + i < (sgL 1).length := by omega
          obtain ⟨v, hc, hrow, hvC, hvg⟩ := hst.c
          obtain ⟨sc1, sc2, _⟩ := HSC.out i him
          obtain ⟨sb1, sb2, sb3⟩ := sg_bd 1 (by omega) (k0 + i) hkl
          have hlen : ((sgL 1).take (k0 + i)).length = k0 + i := by rw [List.length_take]; omega
          have hcell : wr.cell? ⟨gs, k0 + i, none⟩ = some (.int .i64 (sgN 1 (k0 + i))) := by
            have := hst.s.cell (g := gs) (n := 162) (cap := cap0) HSV.out (k0 + i) (by rw [List.length_map]; exact hkl)
            rw [this, List.getElem_map]
            rw [List.getD_eq_getElem?_getD, List.getElem?_eq_getElem hkl, Option.getD_some] at sb2
            rw [sb2]; rfl
          obtain ⟨ad, vcap, hv⟩ : ∃ ad cap, v = .slice ad (k0 + i) cap := by
            rcases hrow.form with ⟨h1, h2⟩ | ⟨g, cap, h1, _⟩
            · rw [List.map_eq_nil_iff] at h2
              rw [h2] at hlen
              exact ⟨none, 0, by rw [h1, ← hlen]; rfl⟩
            · rw [List.length_map, hlen] at h1; exact ⟨_, cap, h1⟩
          subst hv
          have hLEN : (sgL 1).length = 162 := by decide +kernel
          have hkl2 : k0 + i < 162 := by omega
          have PUSH := Lib.hid (fun w1 g m cap o => StdAt.push (w1 := w1) (g := g) (m := m) (cap := cap) (o := o) (by omega) hkl hst hc hvC hvg)
          have hc17 := hc.sg
          have hrow' := hrow
          obtain ⟨sN, hsN⟩ : ∃ sN, sN = sgN 1 (k0 + i) := ⟨_, rfl⟩
          obtain ⟨xs, hxs⟩ : ∃ xs, xs = (sgL 1).take (k0 + i) := ⟨_, rfl⟩
          rw [← hsN] at hcell sb3 sc1 sc2 PUSH
          rw [← hxs] at hrow' hlen PUSH
          have HROW := Lib.hid hrow'
          have HLEN := Lib.hid hlen
          have HSC1 := Lib.hid (And.intro sc1 sc2)
          have hxl : xs.length ≤ 162 := by omega
          have hsz : gs < wr.heap.size := by have := hst.b.size; have := hst.s.lt (g := gs) (by rw [HSV.out]; rfl); exact this
          have hCl := hc.lt
          clear hst hc hrow hrow' hvC hvg sc1 sc2 sb1 sb2 hlen hsN hxs hLEN
          go_wp2_with (at_builtin; refine app3 rfl _ _ rfl _ xs rfl (HROW.out.alloc _) ⟨wr.heap.size, 0, none⟩ 1 1 [(sN : Int)] rfl rfl (by decide) (news_lit _ [.int .i64 (sN : Int)] 3) (by omega) ?_)
          intro g cap w1 hrow1 hgr1 ho1 hlt1
          obtain ⟨⟨p1, p2⟩, v', rfl, p3, p4⟩ := PUSH.out w1 g _ cap _ hrow1 hgr1 ho1
          have q1 := p3.cd sN sb3
          have q2 := p3.wd sN sb3
          have q3 := p3.fr (18 + sN) (by omega)
          have q4 := p3.fr (274 + sN) (by omega)
          have P4 := Lib.hid p4
          clear p3 p4 hrow1 hgr1 ho1 hlt1
          go_wp2_with fail
          go_region
          go_wp2_with fail
          go_roundw
          case rel =>
            refine ⟨i + 1, by omega, by go_num, by go_num, ?_⟩
            have := P4.out 1
            rw [HSC1.out.1, HSC1.out.2] at this
            push_cast at this
            exact this
          case measure => simp [intOf]; omega
        · obtain rfl : i = m := by omega
          have HST := Lib.hid hst
          clear hst
          go_wp2_with fail
          go_roundw
          case rel =>
            refine ⟨n + 1, by omega, by go_num, ?_, ?_⟩
            · rw [HRUN.out]
            · rw [HRUN.out]; exact HST.out
          case measure => simp [intOf]; omega
    · obtain rfl : n = 16 := by omega
      have hle : decide (((16 : Nat) : Int) + 1 ≤ 16) = false := by decide
      clear hst
      go_wp2_with fail
      go_ret
      obtain ⟨v, hc, hrow, hvC, hvg⟩ := HST.out.c
      obtain ⟨t1, t2, t3, t4⟩ := std_total 1 (by omega)
      rw [t1] at hc hrow
      rw [List.take_length] at hrow
      refine ⟨_, v, rfl, ⟨hc.cnt, hc.sg, fun s hs => ?_, fun s hs => ?_, hc.fr⟩, hrow, hvC, fun g hg => (hvg g hg).1, HST.out.hC, HST.out.b⟩
      · rw [hc.cd s hs, (cdF_all 1 s (by omega) hs).1]
      · rw [hc.wd s hs, (cdF_all 1 s (by omega) hs).2]
end Go.Proofs.YtlibflbpajeeeaaDoor

namespace Go.Proofs.YtlibflbpajeeeaaDoor
open Go.RowKit
def bs2 : ByteArray := ⟨#[0, 3, 1, 1, 1, 1, 1, 1, 1, 1, 1, 0, 0, 0, 0, 0]⟩
theorem bs2_at : ∀ n, (hn : n < bs2.size) → (bs2[n]'hn).toNat = cntN 2 n := by decide +kernel
theorem idx2 (n : Nat) (hn : n < 16) (w : World) : (Instr.index 9 (.string ⟨#[0, 3, 1, 1, 1, 1, 1, 1, 1, 1, 1, 0, 0, 0, 0, 0]⟩) (.int .i64 (n : Int))).run Tryd.prog w = .ok (.int .u8 (cntN 2 n : Int)) w := by
  have hs : n < bs2.size := hn
  have h := run_index_string (P := Tryd.prog) (w := w) 9 bs2 .i64 (n : Int) Tryd.underlying9
  rw [dif_pos ⟨by omega, by omega⟩] at h
  rw [← bs2_at n hs]
  exact h
theorem sg12_2 : ∀ k, k < 12 → (sgL 2).take (k + 1) = (sgL 2).take k ++ [(k : Int)] := by decide +kernel

set_option maxRecDepth 100000 in
set_option maxHeartbeats 4000000 in
theorem standard2_any (w : World) : Calls Tryd.prog 21 #[.int .i64 0, .bool true] w fun e w' => ∃ C v, e = .returned (.pointer (some ⟨C, 0, none⟩)) ∧ CodesAt w' C v (cntF 2 16) (codeOf 2) (fun s => wideOf 2 s) ∧ RowAt w' 3 v ((sgL 2).map i64v) ∧ v.ownBlock ≠ some C ∧ (∀ g, v.ownBlock = some g → w.heap.size ≤ g) ∧ w.heap.size ≤ C ∧ Below w.heap.size w w' := by
  have hz := zero71
  obtain ⟨zs, hzs⟩ : ∃ zs, zs = codes0 := ⟨_, rfl⟩
  rw [← hzs] at hz
  have HS := Lib.hid hzs
  clear hzs
  go_enter Tryd.func21, Tryd.ntmps21
  go_wp2_with fail
  go_loopw [6, 7, 22] (fun sv _ kv wr => ∃ k : Nat, k ≤ 12 ∧ kv = .int .i64 k ∧ RowAt wr 3 sv (((sgL 2).take k).map i64v) ∧ (∀ g, sv.ownBlock = some g → w.heap.size ≤ g) ∧ Below w.heap.size w wr) (fun _ _ kv _ => 12 - (intOf kv).toNat)
  case atStart => exact ⟨0, by omega, rfl, RowAt.lit w #[] 3 (by simp), fun g hg => by simp [Value.ownBlock] at hg; omega, (Below.refl _ _).alloc (Nat.le_refl _) _⟩
  case round =>
    obtain ⟨k, hk, rfl, h1, h2, h3⟩ := hrel
    by_cases hk12 : k < 12
    · have hel := sg12_2 k hk12
      obtain ⟨xs, hxs⟩ : ∃ xs, xs = (sgL 2).take k := ⟨_, rfl⟩
      rw [← hxs] at h1 hel
      have hxl : xs.length ≤ 12 := by rw [hxs, List.length_take]; omega
      have H1 := Lib.hid h1
      have H2 := Lib.hid h2
      have H3 := Lib.hid h3
      have HEL := Lib.hid hel
      clear h1 h2 h3 hel hxs
      go_wp2_with (at_builtin; refine app3 rfl _ _ rfl _ xs rfl (H1.out.alloc _) ⟨wr.heap.size, 0, none⟩ 1 1 [(k : Int)] rfl rfl (by decide) (news_lit _ [.int .i64 (k : Int)] 3) (by omega) ?_)
      intro g cap w1 hrow hgr ho hlt
      have hrow' : RowAt w1 3 (.slice (some ⟨g, 0, none⟩) (xs.length + 1) cap) (((sgL 2).take (k + 1)).map i64v) := by rw [HEL.out, List.map_append]; exact hrow
      have h2' : ∀ g', (Value.slice (some ⟨g, 0, none⟩) (xs.length + 1) cap).ownBlock = some g' → w.heap.size ≤ g' := fun g' hg' => by
        simp [Value.ownBlock] at hg'
        subst hg'
        rcases ho with e | e
        · exact H2.out _ e
        · have := H3.out.size; omega
      have h3' := (H3.out.alloc H3.out.size (.cells #[.int .i64 (k : Int)] 3)).grown hgr (by have := H3.out.size; simp; omega) H2.out
      have D := Lib.hid (And.intro hrow' (And.intro h2' h3'))
      clear hrow hgr ho hlt hrow' h2' h3'
      go_wp2_with fail
      go_roundw
      case rel => exact ⟨k + 1, by omega, by go_num, D.out.1, D.out.2.1, D.out.2.2⟩
      case measure => simp [intOf]; omega
    · obtain rfl : k = 12 := by omega
      rw [show ((12 : Nat) : Int) = 12 from rfl]
      obtain ⟨w0, rfl⟩ : ∃ w0 : World, w0 = wr := ⟨_, rfl⟩
      have H1 := Lib.hid (show RowAt w0 3 u6 ((sgL 2).map i64v) from h1)
      have H2 := Lib.hid h2
      have H3 := Lib.hid h3
      clear h1 h2 h3
      obtain ⟨gs, cap0, hsv, hgs⟩ : ∃ gs cap, u6 = Value.slice (some ⟨gs, 0, none⟩) 12 cap ∧ gs < w0.heap.size := by
        obtain ⟨gs, cap, h, hg, _⟩ := H1.out.news (by rw [List.length_map]; exact (std_total 2 (by omega)).2.2.1)
        exact ⟨gs, cap, h, hg⟩
      rw [hsv] at H1 H2
      rw [hsv]
      clear hsv
      have hgsw := H2.out gs rfl
      obtain ⟨sv, hsv⟩ : ∃ sv, sv = Value.slice (some ⟨gs, 0, none⟩) 12 cap0 := ⟨_, rfl⟩
      rw [← hsv] at H1 H2
      have HSV := Lib.hid hsv
      clear hsv
      go_wp2_with fail
      go_loopw [9, 10, 11] (fun cv lv _ wr => ∃ n : Nat, n ≤ 16 ∧ lv = .int .i64 ((n : Int) + 1) ∧ cv = .int .i64 (stdRun 2 n).2 ∧ StdAt w w0.heap.size sv 2 n (stdRun 2 n).1 wr) (fun _ lv _ _ => 17 - (intOf lv).toNat)
      case atStart =>
        refine ⟨0, by omega, rfl, rfl, ⟨⟨.slice none 0 0, ?_, RowAt.nil _ _, by simp [Value.ownBlock], fun g hg => by simp [Value.ownBlock] at hg⟩, H1.out.alloc _, H3.out.alloc H3.out.size _, H3.out.size, fun e => ?_⟩⟩
        · rw [HS.out]; exact CodesAt.new w0 2
        · have := H1.out.lt e; omega
      case round =>
        obtain ⟨n, hn, rfl, rfl, hst⟩ := hrel
        have HST := Lib.hid hst
        by_cases hn16 : n < 16
        · obtain ⟨v, hc, hrow, hvC, hvg⟩ := hst.c
          have hcell := hc.cnt (n + 1) (by omega)
          have hfree := hc.fr (n + 1) (by omega)
          obtain ⟨cb1, cb2, cb3, cb4, cb5⟩ := cnt_bd 2 (by omega) n hn16
          have hix := idx2 n hn16
          have hsc := std_code 2 (by omega) n hn16
          have hrun : stdRun 2 (n + 1) = ((stdRun 2 n).1 + cntN 2 n, ((stdRun 2 n).2 + cntN 2 n) * 2) := rfl
          have hcs := HST.out.cntSet hn16 1
          obtain ⟨k0, hk0⟩ : ∃ k0, k0 = (stdRun 2 n).1 := ⟨_, rfl⟩
          obtain ⟨c0, hc0⟩ : ∃ c0, c0 = (stdRun 2 n).2 := ⟨_, rfl⟩
          obtain ⟨m, hm⟩ : ∃ m, m = cntN 2 n := ⟨_, rfl⟩
          rw [← hk0] at cb3 hsc hrun hcs
          rw [← hc0] at cb4 cb5 hsc hrun
          rw [← hc0]
          rw [← hm] at cb1 cb3 cb5 hsc hrun hcs hix
          obtain ⟨old, hold⟩ : ∃ z, z = cntF 2 n (n + 1) := ⟨_, rfl⟩
          rw [← hold] at hcell
          have HSC := Lib.hid hsc
          have HRUN := Lib.hid hrun
          have HCS := Lib.hid hcs
          have hle : decide ((n : Int) + 1 ≤ 16) = true := by simp; omega
          clear hst hc hrow hvC hvg cb2 hsc hrun hcs hk0 hc0 hm hold HST
          go_wp2_with fail
          go_region
          go_wp2_with fail
          clear hcell hfree
          go_loopw [9, 11, 59] (fun cv _ iv wr => ∃ i : Nat, i ≤ m ∧ iv = .int .i64 i ∧ cv = .int .i64 (c0 + i) ∧ StdAt w w0.heap.size sv 2 (n + 1) (k0 + i) wr) (fun _ _ iv _ => m - (intOf iv).toNat)
          case atStart => exact ⟨0, by omega, rfl, by simp, HCS.out⟩
          case round =>
            obtain ⟨i, hi, rfl, rfl, hst⟩ := hrel
            by_cases him : i < m
            · have hkl : k0 + i < (sgL 2).length := by omega
              obtain ⟨v, hc, hrow, hvC, hvg⟩ := hst.c
              obtain ⟨sc1, sc2, _⟩ := HSC.out i him
              obtain ⟨sb1, sb2, sb3⟩ := sg_bd 2 (by omega) (k0 + i) hkl
              have hlen : ((sgL 2).take (k0 + i)).length = k0 + i := by rw [List.length_take]; omega
              have hcell : wr.cell? ⟨gs, k0 + i, none⟩ = some (.int .i64 (sgN 2 (k0 + i))) := by
                have := hst.s.cell (g := gs) (n := 12) (cap := cap0) HSV.out (k0 + i) (by rw [List.length_map]; exact hkl)
                rw [this, List.getElem_map]
                rw [List.getD_eq_getElem?_getD, List.getElem?_eq_getElem hkl, Option.getD_some] at sb2
                rw [sb2]; rfl
              obtain ⟨ad, vcap, hv⟩ : ∃ ad cap, v = .slice ad (k0 + i) cap := by
                rcases hrow.form with ⟨h1, h2⟩ | ⟨g, cap, h1, _⟩
                · rw [List.map_eq_nil_iff] at h2
                  rw [h2] at hlen
                  exact ⟨none, 0, by rw [h1, ← hlen]; rfl⟩
                · rw [List.length_map, hlen] at h1; exact ⟨_, cap, h1⟩
              subst hv
              have hLEN : (sgL 2).length = 12 := by decide +kernel
              have hkl2 : k0 + i < 12 := by omega
              have PUSH := Lib.hid (fun w1 g m cap o => StdAt.push (w1 := w1) (g := g) (m := m) (cap := cap) (o := o) (by omega) hkl hst hc hvC hvg)
              have hc17 := hc.sg
              have hrow' := hrow
              obtain ⟨sN, hsN⟩ : ∃ sN, sN = sgN 2 (k0 + i) := ⟨_, rfl⟩
              obtain ⟨xs, hxs⟩ : ∃ xs, xs = (sgL 2).take (k0 + i) := ⟨_, rfl⟩
              rw [← hsN] at hcell sb3 sc1 sc2 PUSH
              rw [← hxs] at hrow' hlen PUSH
              have HROW := Lib.hid hrow'
              have HLEN := Lib.hid hlen
              have HSC1 := Lib.hid (And.intro sc1 sc2)
              have hxl : xs.length ≤ 162 := by omega
              have hsz : gs < wr.heap.size := by have := hst.b.size; have := hst.s.lt (g := gs) (by rw [HSV.out]; rfl); exact this
              have hCl := hc.lt
              clear hst hc hrow hrow' hvC hvg sc1 sc2 sb1 sb2 hlen hsN hxs hLEN
              go_wp2_with (at_builtin; refine app3 rfl _ _ rfl _ xs rfl (HROW.out.alloc _) ⟨wr.heap.size, 0, none⟩ 1 1 [(sN : Int)] rfl rfl (by decide) (news_lit _ [.int .i64 (sN : Int)] 3) (by omega) ?_)
              intro g cap w1 hrow1 hgr1 ho1 hlt1
              obtain ⟨⟨p1, p2⟩, v', rfl, p3, p4⟩ := PUSH.out w1 g _ cap _ hrow1 hgr1 ho1
              have q1 := p3.cd sN sb3
              have q2 := p3.wd sN sb3
              have q3 := p3.fr (18 + sN) (by omega)
              have q4 := p3.fr (274 + sN) (by omega)
              have P4 := Lib.hid p4
              clear p3 p4 hrow1 hgr1 ho1 hlt1
              go_wp2_with fail
              go_region
              go_wp2_with fail
              go_roundw
              case rel =>
                refine ⟨i + 1, by omega, by go_num, by go_num, ?_⟩
                have := P4.out 1
                rw [HSC1.out.1, HSC1.out.2] at this
                push_cast at this
                exact this
              case measure => simp [intOf]; omega
            · obtain rfl : i = m := by omega
              have HST := Lib.hid hst
              clear hst
              go_wp2_with fail
              go_roundw
              case rel =>
                refine ⟨n + 1, by omega, by go_num, ?_, ?_⟩
                · rw [HRUN.out]
                · rw [HRUN.out]; exact HST.out
              case measure => simp [intOf]; omega
        · obtain rfl : n = 16 := by omega
          have hle : decide (((16 : Nat) : Int) + 1 ≤ 16) = false := by decide
          clear hst
          go_wp2_with fail
          go_ret
          obtain ⟨v, hc, hrow, hvC, hvg⟩ := HST.out.c
          obtain ⟨t1, t2, t3, t4⟩ := std_total 2 (by omega)
          rw [t1] at hc hrow
          rw [List.take_length] at hrow
          refine ⟨_, v, rfl, ⟨hc.cnt, hc.sg, fun s hs => ?_, fun s hs => ?_, hc.fr⟩, hrow, hvC, fun g hg => (hvg g hg).1, HST.out.hC, HST.out.b⟩
          · rw [hc.cd s hs, (cdF_all 2 s (by omega) hs).1]
          · rw [hc.wd s hs, (cdF_all 2 s (by omega) hs).2]
end Go.Proofs.YtlibflbpajeeeaaDoor

namespace Go.Proofs.YtlibflbpajeeeaaDoor
open Go.RowKit
def bs3 : ByteArray := ⟨#[0, 2, 1, 2, 4, 4, 3, 4, 7, 5, 4, 4, 0, 1, 2, 119]⟩
theorem bs3_at : ∀ n, (hn : n < bs3.size) → (bs3[n]'hn).toNat = cntN 3 n := by decide +kernel
theorem idx3 (n : Nat) (hn : n < 16) (w : World) : (Instr.index 9 (.string ⟨#[0, 2, 1, 2, 4, 4, 3, 4, 7, 5, 4, 4, 0, 1, 2, 119]⟩) (.int .i64 (n : Int))).run Tryd.prog w = .ok (.int .u8 (cntN 3 n : Int)) w := by
  have hs : n < bs3.size := hn
  have h := run_index_string (P := Tryd.prog) (w := w) 9 bs3 .i64 (n : Int) Tryd.underlying9
  rw [dif_pos ⟨by omega, by omega⟩] at h
  rw [← bs3_at n hs]
  exact h

set_option maxRecDepth 100000 in
set_option maxHeartbeats 4000000 in
theorem standard3_any (w : World) : Calls Tryd.prog 21 #[.int .i64 1, .bool true] w fun e w' => ∃ C v, e = .returned (.pointer (some ⟨C, 0, none⟩)) ∧ CodesAt w' C v (cntF 3 16) (codeOf 3) (fun s => wideOf 3 s) ∧ RowAt w' 3 v ((sgL 3).map i64v) ∧ v.ownBlock ≠ some C ∧ (∀ g, v.ownBlock = some g → w.heap.size ≤ g) ∧ w.heap.size ≤ C ∧ Below w.heap.size w w' := by
  have hz := zero71
  obtain ⟨zs, hzs⟩ : ∃ zs, zs = codes0 := ⟨_, rfl⟩
  rw [← hzs] at hz
  have HS := Lib.hid hzs
  clear hzs
  go_enter Tryd.func21, Tryd.ntmps21
  obtain ⟨fl, hfl⟩ : ∃ fl, fl = (sgL 3).take 43 := ⟨_, rfl⟩
  have hfln : fl.length = 43 := by rw [hfl]; decide +kernel
  have hall : fl ++ restL fl 256 = sgL 3 := by rw [hfl]; decide +kernel
  have hrl : (restL fl 256).length = 119 := by rw [hfl]; decide +kernel
  have HP : RowKit.Hid (∀ l : List (Nat × Operand), l = (((sgL 3).take 43).zipIdx 0).map (fun x => (x.2, Operand.const (Value.int .i64 x.1))) → l = (fl.zipIdx 0).map fun x => (x.2, Operand.const (Value.int .i64 x.1))) := fun l h => by rw [h, ← hfl]
  have HFLN := Lib.hid hfln
  have HALL := Lib.hid hall
  have HRL := Lib.hid hrl
  clear hfl hfln hall hrl
  go_wp2_with ((with_reducible show wpList _ _ _ (⟨_, .buildSlice 68 43 _, _, _, _, _⟩ :: _) _ _); refine wpList_buildFlat rfl 68 3 43 _ rfl .i64 fl Tryd.underlying68 (by kernel_rfl) (by kernel_rfl) HFLN.out.symm (by decide) (by decide) (HP.out _ (by rfl)) ?_)
  have hlit : RowAt ((w.alloc (.cells #[] 3)).alloc (.cells (fl.map (Value.int .i64)).toArray 3)) 3 (.slice (some ⟨w.heap.size + 1, 0, none⟩) 43 43) (fl.map i64v) := by
    have h := RowAt.lit (w.alloc (.cells #[] 3)) (fl.map (Value.int .i64)).toArray 3 (by simp [HFLN.out])
    simp only [List.size_toArray, List.length_map, HFLN.out] at h
    rw [show w.heap.size + 1 = (w.alloc (.cells #[] 3)).heap.size by simp]
    exact h
  refine (rest_any _ _ fl hlit (by have := HFLN.out; omega) (by have := HFLN.out; omega)).mono ?_
  rintro e w1 ⟨v1, rfl, hr1, hb1, ho1⟩
  obtain ⟨g1, cap1, hv1, hg1, hn1⟩ := hr1.news (by rw [List.length_map, HRL.out]; decide)
  rw [List.length_map, HRL.out] at hv1
  rw [hv1]
  have hl1 := hlit.same (w' := w1) fun g hg => hb1.block g (by have := hlit.lt hg; exact this)
  have HL1 := Lib.hid hl1
  have HN1 := Lib.hid hn1
  have HB1 := Lib.hid hb1
  have HFL2 := Lib.hid (show fl.length + 119 = 162 by rw [HFLN.out])
  clear hlit hl1 hn1 hb1 hr1 ho1 hv1
  go_wp2_with (at_builtin; refine app3 rfl _ _ rfl _ fl rfl HL1.out ⟨g1, 0, none⟩ 119 cap1 (restL fl 256) rfl HRL.out (by decide) HN1.out (by have := HFLN.out; omega) ?_)
  intro g2 cap2 w0 hrow2 hgr2 ho2 hlt2
  rw [← List.map_append, HALL.out] at hrow2
  rw [HFL2.out] at hrow2 ⊢
  obtain ⟨u6, hu6⟩ : ∃ u6, u6 = Value.slice (some ⟨g2, 0, none⟩) 162 cap2 := ⟨_, rfl⟩
  rw [← hu6] at hrow2
  rw [← hu6]
  have H1 := Lib.hid hrow2
  have H2 := Lib.hid (show ∀ g, u6.ownBlock = some g → w.heap.size ≤ g by
    intro g hg
    rw [hu6] at hg
    simp [Value.ownBlock] at hg ho2
    have := HB1.out.size
    simp at this
    omega)
  have H3 := Lib.hid (((((Below.refl w.heap.size w).alloc (Nat.le_refl _) (.cells #[] 3)).alloc (by simp) (.cells (fl.map (Value.int .i64)).toArray 3)).trans (HB1.out.mono (by simp; omega))).grown hgr2 (by have := HB1.out.size; simp at this; omega) (by intro g hg; simp [Value.ownBlock] at hg; omega))
  clear hrow2 hgr2 ho2 hlt2 hu6
  obtain ⟨gs, cap0, hsv, hgs⟩ : ∃ gs cap, u6 = Value.slice (some ⟨gs, 0, none⟩) 162 cap ∧ gs < w0.heap.size := by
    obtain ⟨gs, cap, h, hg, _⟩ := H1.out.news (by rw [List.length_map]; exact (std_total 3 (by omega)).2.2.1)
    exact ⟨gs, cap, h, hg⟩
  rw [hsv] at H1 H2
  rw [hsv]
  clear hsv
  have hgsw := H2.out gs rfl
  obtain ⟨sv, hsv⟩ : ∃ sv, sv = Value.slice (some ⟨gs, 0, none⟩) 162 cap0 := ⟨_, rfl⟩
  rw [← hsv] at H1 H2
  have HSV := Lib.hid hsv
  clear hsv
  go_wp2_with fail
  go_loopw [9, 10, 11] (fun cv lv _ wr => ∃ n : Nat, n ≤ 16 ∧ lv = .int .i64 ((n : Int) + 1) ∧ cv = .int .i64 (stdRun 3 n).2 ∧ StdAt w w0.heap.size sv 3 n (stdRun 3 n).1 wr) (fun _ lv _ _ => 17 - (intOf lv).toNat)
  case atStart =>
    refine ⟨0, by omega, rfl, rfl, ⟨⟨.slice none 0 0, ?_, RowAt.nil _ _, by simp [Value.ownBlock], fun g hg => by simp [Value.ownBlock] at hg⟩, H1.out.alloc _, H3.out.alloc H3.out.size _, H3.out.size, fun e => ?_⟩⟩
    · rw [HS.out]; exact CodesAt.new w0 3
    · have := H1.out.lt e; omega
  case round =>
    obtain ⟨n, hn, rfl, rfl, hst⟩ := hrel
    have HST := Lib.hid hst
    by_cases hn16 : n < 16
    · obtain ⟨v, hc, hrow, hvC, hvg⟩ := hst.c
      have hcell := hc.cnt (n + 1) (by omega)
      have hfree := hc.fr (n + 1) (by omega)
      obtain ⟨cb1, cb2, cb3, cb4, cb5⟩ := cnt_bd 3 (by omega) n hn16
      have hix := idx3 n hn16
      have hsc := std_code 3 (by omega) n hn16
      have hrun : stdRun 3 (n + 1) = ((stdRun 3 n).1 + cntN 3 n, ((stdRun 3 n).2 + cntN 3 n) * 2) := rfl
      have hcs := HST.out.cntSet hn16 1
      obtain ⟨k0, hk0⟩ : ∃ k0, k0 = (stdRun 3 n).1 := ⟨_, rfl⟩
      obtain ⟨c0, hc0⟩ : ∃ c0, c0 = (stdRun 3 n).2 := ⟨_, rfl⟩
      obtain ⟨m, hm⟩ : ∃ m, m = cntN 3 n := ⟨_, rfl⟩
      rw [← hk0] at cb3 hsc hrun hcs
      rw [← hc0] at cb4 cb5 hsc hrun
      rw [← hc0]
      rw [← hm] at cb1 cb3 cb5 hsc hrun hcs hix
      obtain ⟨old, hold⟩ : ∃ z, z = cntF 3 n (n + 1) := ⟨_, rfl⟩
      rw [← hold] at hcell
      have HSC := Lib.hid hsc
      have HRUN := Lib.hid hrun
      have HCS := Lib.hid hcs
      have hle : decide ((n : Int) + 1 ≤ 16) = true := by simp; omega
      clear hst hc hrow hvC hvg cb2 hsc hrun hcs hk0 hc0 hm hold HST
      go_wp2_with fail
      go_region
      go_wp2_with fail
      clear hcell hfree
      go_loopw [9, 11, 59] (fun cv _ iv wr => ∃ i : Nat, i ≤ m ∧ iv = .int .i64 i ∧ cv = .int .i64 (c0 + i) ∧ StdAt w w0.heap.size sv 3 (n + 1) (k0 + i) wr) (fun _ _ iv _ => m - (intOf iv).toNat)
      case atStart => exact ⟨0, by omega, rfl, by simp, HCS.out⟩
      case round =>
        obtain ⟨i, hi, rfl, rfl, hst⟩ := hrel
        by_cases him : i < m
        · have hkl : k0 + i < (sgL 3).length := by omega
          obtain ⟨v, hc, hrow, hvC, hvg⟩ := hst.c
          obtain ⟨sc1, sc2, _⟩ := HSC.out i him
          obtain ⟨sb1, sb2, sb3⟩ := sg_bd 3 (by omega) (k0 + i) hkl
          have hlen : ((sgL 3).take (k0 + i)).length = k0 + i := by rw [List.length_take]; omega
          have hcell : wr.cell? ⟨gs, k0 + i, none⟩ = some (.int .i64 (sgN 3 (k0 + i))) := by
            have := hst.s.cell (g := gs) (n := 162) (cap := cap0) HSV.out (k0 + i) (by rw [List.length_map]; exact hkl)
            rw [this, List.getElem_map]
            rw [List.getD_eq_getElem?_getD, List.getElem?_eq_getElem hkl, Option.getD_some] at sb2
            rw [sb2]; rfl
          obtain ⟨ad, vcap, hv⟩ : ∃ ad cap, v = .slice ad (k0 + i) cap := by
            rcases hrow.form with ⟨h1, h2⟩ | ⟨g, cap, h1, _⟩
            · rw [List.map_eq_nil_iff] at h2
              rw [h2] at hlen
              exact ⟨none, 0, by rw [h1, ← hlen]; rfl⟩
            · rw [List.length_map, hlen] at h1; exact ⟨_, cap, h1⟩
          subst hv
          have hLEN : (sgL 3).length = 162 := by decide +kernel
          have hkl2 : k0 + i < 162 := by omega
          have PUSH := Lib.hid (fun w1 g m cap o => StdAt.push (w1 := w1) (g := g) (m := m) (cap := cap) (o := o) (by omega) hkl hst hc hvC hvg)
          have hc17 := hc.sg
          have hrow' := hrow
          obtain ⟨sN, hsN⟩ : ∃ sN, sN = sgN 3 (k0 + i) := ⟨_, rfl⟩
          obtain ⟨xs, hxs⟩ : ∃ xs, xs = (sgL 3).take (k0 + i) := ⟨_, rfl⟩
          rw [← hsN] at hcell sb3 sc1 sc2 PUSH
          rw [← hxs] at hrow' hlen PUSH
          have HROW := Lib.hid hrow'
          have HLEN := Lib.hid hlen
          have HSC1 := Lib.hid (And.intro sc1 sc2)
          have hxl : xs.length ≤ 162 := by omega
          have hsz : gs < wr.heap.size := by have := hst.b.size; have := hst.s.lt (g := gs) (by rw [HSV.out]; rfl); exact this
          have hCl := hc.lt
          clear hst hc hrow hrow' hvC hvg sc1 sc2 sb1 sb2 hlen hsN hxs hLEN
          go_wp2_with (at_builtin; refine app3 rfl _ _ rfl _ xs rfl (HROW.out.alloc _) ⟨wr.heap.size, 0, none⟩ 1 1 [(sN : Int)] rfl rfl (by decide) (news_lit _ [.int .i64 (sN : Int)] 3) (by omega) ?_)
          intro g cap w1 hrow1 hgr1 ho1 hlt1
          obtain ⟨⟨p1, p2⟩, v', rfl, p3, p4⟩ := PUSH.out w1 g _ cap _ hrow1 hgr1 ho1
          have q1 := p3.cd sN sb3
          have q2 := p3.wd sN sb3
          have q3 := p3.fr (18 + sN) (by omega)
          have q4 := p3.fr (274 + sN) (by omega)
          have P4 := Lib.hid p4
          clear p3 p4 hrow1 hgr1 ho1 hlt1
          go_wp2_with fail
          go_region
          go_wp2_with fail
          go_roundw
          case rel =>
            refine ⟨i + 1, by omega, by go_num, by go_num, ?_⟩
            have := P4.out 1
            rw [HSC1.out.1, HSC1.out.2] at this
            push_cast at this
            exact this
          case measure => simp [intOf]; omega
        · obtain rfl : i = m := by omega
          have HST := Lib.hid hst
          clear hst
          go_wp2_with fail
          go_roundw
          case rel =>
            refine ⟨n + 1, by omega, by go_num, ?_, ?_⟩
            · rw [HRUN.out]
            · rw [HRUN.out]; exact HST.out
          case measure => simp [intOf]; omega
    · obtain rfl : n = 16 := by omega
      have hle : decide (((16 : Nat) : Int) + 1 ≤ 16) = false := by decide
      clear hst
      go_wp2_with fail
      go_ret
      obtain ⟨v, hc, hrow, hvC, hvg⟩ := HST.out.c
      obtain ⟨t1, t2, t3, t4⟩ := std_total 3 (by omega)
      rw [t1] at hc hrow
      rw [List.take_length] at hrow
      refine ⟨_, v, rfl, ⟨hc.cnt, hc.sg, fun s hs => ?_, fun s hs => ?_, hc.fr⟩, hrow, hvC, fun g hg => (hvg g hg).1, HST.out.hC, HST.out.b⟩
      · rw [hc.cd s hs, (cdF_all 3 s (by omega) hs).1]
      · rw [hc.wd s hs, (cdF_all 3 s (by omega) hs).2]
end Go.Proofs.YtlibflbpajeeeaaDoor
