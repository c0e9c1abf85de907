/- The contract of writeSOS over a colored picture (Rgb). Printed by wip/gen/sosc.py. The contract of writeSOS over a colored picture (Ycc). Printed by wip/gen/sosc.py. (Joined by wip/gen/merge.py.) -/
import Derived.Test.YtlibflbpajeeeaaDoorJImg
import Derived.Deep.RegionWith
import Derived.BigRegion
namespace Go.Proofs.YtlibflbpajeeeaaDoor
open Go.RowKit Go.Sort


theorem away3Rgb {E Z B m : Nat} (h : m ∉ [E, Z, B, B + 1, B + 2]) : m ≠ B ∧ m ≠ B + 1 ∧ m ≠ B + 2 := by
  simp at h
  omega

theorem fillRgb (wr u : World) (M pb wd ht : Nat) (L : List Int) (x y B k : Nat) (d D1 D2 : Array Int) (f0 f1 f2 : Nat → Nat → Int) (hG : RgbAt u M pb wd ht L) (hx : x ≤ 190 ∧ y ≤ 190) (hk : k < 4) (hu : Fills [] wr u) (hd : d.size = 64) (hD1 : D1.size = 256) (hD2 : D2.size = 256)
    (hh : Holds i32v wr B 0 d) (h1 : Holds i32v wr (B + 1) 0 (fills f1 wd ht x y D1 k)) (h2 : Holds i32v wr (B + 2) 0 (fills f2 wd ht x y D2 k)) (l0 : B < wr.heap.size) (l1 : B + 1 < wr.heap.size) (l2 : B + 2 < wr.heap.size)
    (hav : ∀ m ∈ [M, pb], m ≠ B ∧ m ≠ B + 1 ∧ m ≠ B + 2) (e0 : f0 = (rgbY L wd)) (e1 : f1 = (rgbCb L wd)) (e2 : f2 = (rgbCr L wd)) :
    Calls Tryd.prog 60 #[.pointer (some ⟨M, 0, none⟩), .agg #[.int .i64 ((x + k % 2 * 8 : Nat) : Int), .int .i64 ((y + k / 2 * 8 : Nat) : Int)], .pointer (some ⟨B, 0, none⟩), .pointer (some ⟨B + 1, k * 64, none⟩), .pointer (some ⟨B + 1 + 1, k * 64, none⟩)] u fun e w' => e = .returned (.tuple #[]) ∧
      Fills [B, B + 1, B + 2] wr w' ∧ Holds i32v w' B 0 (lumaB f0 wd ht (x + k % 2 * 8) (y + k / 2 * 8)) ∧ Holds i32v w' (B + 1) 0 (fills f1 wd ht x y D1 (k + 1)) ∧ Holds i32v w' (B + 2) 0 (fills f2 wd ht x y D2 (k + 1)) := by
  have hno : ∀ g, undef.ownBlock ≠ some g := fun g e => by cases e
  have hs1 : (fills f1 wd ht x y D1 k).size = 256 := by rw [fills_size]; exact hD1
  have hs2 : (fills f2 wd ht x y D2 k).size = 256 := by rw [fills_size]; exact hD2
  have n1 : fills f1 wd ht x y D1 (k + 1) = fillAt (k * 64) (blkG f1 wd ht (x + k % 2 * 8) (y + k / 2 * 8)) (fills f1 wd ht x y D1 k) 64 := (fills_succ _ _ _ _ _ _ k).trans (by simp only [Nat.mul_comm])
  have n2 : fills f2 wd ht x y D2 (k + 1) = fillAt (k * 64) (blkG f2 wd ht (x + k % 2 * 8) (y + k / 2 * 8)) (fills f2 wd ht x y D2 k) 64 := (fills_succ _ _ _ _ _ _ k).trans (by simp only [Nat.mul_comm])
  rw [n1, n2]
  generalize fills f1 wd ht x y D1 k = F1 at h1 hs1 ⊢
  generalize fills f2 wd ht x y D2 k = F2 at h2 hs2 ⊢
  refine (rgbFill_any u M pb wd ht L (x + k % 2 * 8) (y + k / 2 * 8) B (B + 1) (B + 2) (k * 64) d F1 F2 hG (by omega) ⟨hd, hs1, hs2, by omega⟩
    (holds_same hh (hu.block B l0 (by simp) (hno _))) (holds_same h1 (hu.block (B + 1) l1 (by simp) (hno _))) (holds_same h2 (hu.block (B + 2) l2 (by simp) (hno _))) ⟨⟨by omega, by omega, by omega⟩, hav⟩).mono ?_
  rintro e w' ⟨he, tf, t0, t1, t2⟩
  rw [fillAt_blk _ _ hd] at t0
  rw [e0, e1, e2]
  exact ⟨he, (hu.wider (by simp)).trans tf, t0, t1, t2⟩

set_option maxRecDepth 100000 in
set_option maxHeartbeats 4000000 in
theorem sosRgb_any (w : World) (E Z : Nat) (M pb wd ht : Nat) (v : Value) (s : St) (Q : Nat → Nat → Int) (L : List Int) (h : EncAt w E Z v s) (hf : Fix w E Z v [] Q) (hQ : ∀ q, q < 2 → ∀ j, j < 64 → 1 ≤ Q q j ∧ Q q j ≤ 255) (hl : s.out.length ≤ 1000000)
    (hg : RgbAt w M pb wd ht L ∧ Away v [E, Z] w [M, pb]) (hf8 : ∀ x y, (0 ≤ (rgbY L wd) x y ∧ (rgbY L wd) x y ≤ 255) ∧ (0 ≤ (rgbCb L wd) x y ∧ (rgbCb L wd) x y ≤ 255) ∧ (0 ≤ (rgbCr L wd) x y ∧ (rgbCr L wd) x y ≤ 255)) :
    Calls Tryd.prog 46 #[.pointer (some ⟨E, 0, none⟩), .iface 94 (.pointer (some ⟨M, 0, none⟩))] w (Wrote E Z v w (pushBits (scanOf 16 wd ht (mcuColor Q (rgbY L wd) (rgbCb L wd) (rgbCr L wd) wd ht) ⟨s.put sosC, 0, 0, 0⟩).s 127 7)) := by
  have hz0 := zero144
  obtain ⟨zs, hzs⟩ : ∃ zs : Array Value, zs = Array.replicate 256 (.int .i32 0) := ⟨_, rfl⟩
  rw [← hzs] at hz0
  have hta := fun a w => ta_same 94 (by simp) a w
  have htb := fun a w => ta_other 94 98 (by simp) (by simp) (by decide) a w
  have htc := fun a w => ta_other 94 90 (by simp) (by simp) (by decide) a w
  have HF := Lib.hid hf
  have H := Lib.hid h
  have HG := Lib.hid hg
  have HQ := Lib.hid hQ
  have HZS := Lib.hid hzs
  have HF8 := Lib.hid hf8
  clear hf h hg hQ hzs hf8
  go_enter Tryd.func46, Tryd.ntmps46
  go_wp2_with (go_at_call 56; go_in)
  refine (write_any _ E Z v s sosC ⟨w.heap.size, 0, none⟩ 14 14 (H.out.alloc _) (by omega) (by omega) (by omega) rfl (lit_cells w (sosC.map u8v) 5)).mono ?_
  rintro e w1 ⟨rfl, v1, h1, k1⟩
  have hk1 := (EncStep.alloc E Z v w (.cells (sosC.map u8v).toArray 5) H.out.ltE).trans k1
  have hf1 := HF.out.step (hk1.to [])
  have ha1 := HG.out.2.step hk1.k
  have hg1 := HG.out.1.keeps hk1.k.fills (HG.out.2.not (by simp)) (HG.out.2.not (by simp)) 
  have hr0 := past4 hg1.r0
  have hr1 := past4 hg1.r1
  have hr2 := past4 hg1.r2
  have hr3 := past4 hg1.r3
  have hM : M < w1.heap.size := World.block_lt_of_cell? w1 _ hg1.st
  obtain ⟨hd1, hd2, hd3, hd4⟩ := hg1.dim
  have H1 := Lib.hid h1
  have K1 := Lib.hid hk1
  have F1 := Lib.hid hf1
  have A1 := Lib.hid ha1
  have G1 := Lib.hid hg1
  clear h1 k1 hk1 hf1 ha1 hg1
  obtain ⟨B, hB⟩ : ∃ B, B = w1.heap.size := ⟨_, rfl⟩
  obtain ⟨W1, hW1⟩ : ∃ W1, W1 = sosW w1 zs wd ht := ⟨_, rfl⟩
  have hEB : E ∉ [B, B + 1, B + 2] := by have := H1.out.ltE; simp; omega
  have hZB : Z ∉ [B, B + 1, B + 2] := by have := H1.out.ltZ; simp; omega
  have hfl : Fills [] w1 W1 := by rw [hW1]; exact sosW_fills _ _ _ _
  have hsz : W1.heap.size = w1.heap.size + 5 := by rw [hW1]; exact sosW_size _ _ _ _
  obtain ⟨hbB, hbC, hbR2, hbR⟩ := sosW_b w1 zs wd ht
  rw [← hW1] at hbB hbC hbR2 hbR
  have hown : ∀ g, v1.ownBlock = some g → g < w1.heap.size := fun g hg => H1.out.z.row.lt hg
  have hs1 : Step2 E Z [] v1 v1 w1 W1 := Step2.ofFills (by exact hfl) (by simp) H1.out.ltE
  have hF : Fix W1 E Z v1 [B, B + 1, B + 2] Q := ((F1.out.more [B, B + 1, B + 2] (by simp; omega))).step (hs1.wider (by simp))
  have hG : RgbAt W1 M pb wd ht L := G1.out.keeps hfl (by simp) (by simp) 
  have hA : Away v1 [E, Z, B, B + 1, B + 2] W1 [M, pb, B + 4] := by
    intro m hm
    simp at hm
    rcases hm with rfl | rfl | rfl
    · obtain ⟨h1, h2, h3⟩ := A1.out m (by simp)
      exact ⟨by omega, by simp at h2 ⊢; omega, h3⟩
    · obtain ⟨h1, h2, h3⟩ := A1.out m (by simp)
      exact ⟨by omega, by simp at h2 ⊢; omega, h3⟩
    · refine ⟨by omega, ?_, fun e => by have := hown _ e; omega⟩
      have h1 := H1.out.ltE
      have h2 := H1.out.ltZ
      simp; omega
  have hbx : W1.cell? ⟨B + 4, 2, none⟩ = some (.int .i64 wd) ∧ W1.cell? ⟨B + 4, 3, none⟩ = some (.int .i64 ht) ∧ W1.cell? ⟨B + 4, 0, none⟩ = some (.int .i64 0) := by
    refine ⟨?_, ?_, ?_⟩ <;> (rw [hB, cell_of_row _ _ _ _ 88 (0, 0) hbR]; rfl)
  obtain ⟨a0, ha0⟩ : ∃ a0 : Sc, a0 = ⟨s.put sosC, 0, 0, 0⟩ := ⟨_, rfl⟩
  have hok0 : a0.Ok 1000014 := by rw [ha0]; exact ⟨⟨by simp, by simp, by simp⟩, by simp [St.put, sosC]; omega⟩
  have hrel0 : SosRel3 W1 E Z B v1 a0.s v1 W1 := by
    rw [ha0]
    refine ⟨⟨H1.out.fills hfl (by simp) (by simp) (fun _ _ => by simp), Step2.refl _ _ _ _ _, ⟨Array.replicate 64 0, by simp, ?_⟩, fun b hb => ?_⟩, ⟨Array.replicate 256 0, by simp, ?_⟩, ⟨Array.replicate 256 0, by simp, ?_⟩⟩
    · refine holds_of_block (t := 126) ?_
      rw [hB, ← z64_lit]
      exact hbB
    · simp at hb
      exact ⟨fun e => by have := hown _ e; omega, by omega⟩
    · refine holds_of_block (t := 144) ?_
      rw [hB, ← z256_map, ← HZS.out]
      exact hbC
    · refine holds_of_block (t := 144) ?_
      rw [hB, ← z256_map, ← HZS.out]
      exact hbR2
  obtain ⟨f0, hf0⟩ : ∃ f, f = (rgbY L wd) := ⟨_, rfl⟩
  obtain ⟨f1, hf1⟩ : ∃ f, f = (rgbCb L wd) := ⟨_, rfl⟩
  obtain ⟨f2, hf2⟩ : ∃ f, f = (rgbCr L wd) := ⟨_, rfl⟩
  have hf8 := HF8.out
  rw [← hf0, ← hf1, ← hf2] at hf8
  obtain ⟨g, hg⟩ : ∃ g, g = mcuColor Q f0 f1 f2 wd ht := ⟨_, rfl⟩
  have hlok : ∀ x y k a n, a.Ok n → (mcuLuma Q f0 wd ht x y k a).Ok (n + 13000) := fun x y k a n h => putBlk_ok h (by omega) HQ.out (blkA_size _) (lumaB_fits _ (fun x y => (hf8 x y).1) _ _ _ _)
  have hc1 : ∀ x y a n, a.Ok n → (putBlk Q 1 1 (smallB f1 wd ht x y) a).Ok (n + 13000) := fun x y a n h => putBlk_ok h (by omega) HQ.out (smallB_size _ _ _ _ _) (smallB_fits _ (fun x y => (hf8 x y).2.1) _ _ _ _)
  have hc2 : ∀ x y a n, a.Ok n → (putBlk Q 2 1 (smallB f2 wd ht x y) a).Ok (n + 13000) := fun x y a n h => putBlk_ok h (by omega) HQ.out (smallB_size _ _ _ _ _) (smallB_fits _ (fun x y => (hf8 x y).2.2) _ _ _ _)
  have hgok : ∀ x y a n, a.Ok n → (g x y a).Ok (n + 78000) := fun x y a n h => by
    rw [hg]
    exact (hc2 _ _ _ _ (hc1 _ _ _ _ (iter_ok _ 13000 (fun k a n h => hlok _ _ k a n h) a n h 4))).mono (by omega)
  have hrow : ∀ r, (iter (rowOf 16 wd g) r a0).Ok (1000014 + 546000 * r) := iter_ok (rowOf 16 wd g) 546000 (fun r a n h => (iter_ok _ 78000 (fun c a n h => hgok _ _ a n h) a n h _).mono (by omega)) a0 _ hok0
  have hcol : ∀ r c, (iter (fun c => g (16 * c) (16 * r)) c (iter (rowOf 16 wd g) r a0)).Ok (1000014 + 546000 * r + 78000 * c) := fun r c => iter_ok _ 78000 (fun c a n h => hgok _ _ a n h) _ _ (hrow r) c
  have HB := Lib.hid (And.intro hB (And.intro hW1 (And.intro hEB (And.intro hZB hsz))))
  have FX := Lib.hid hF
  have GX := Lib.hid hG
  have AX := Lib.hid hA
  have BX := Lib.hid hbx
  have REL0 := Lib.hid hrel0
  have OKC := Lib.hid hcol
  have OKR := Lib.hid hrow
  have OKL := Lib.hid (And.intro hlok (And.intro hc1 hc2))
  have GE := Lib.hid hg
  have HA0 := Lib.hid ha0
  have HFS := Lib.hid (And.intro hf0 (And.intro hf1 hf2))
  have HF88 := Lib.hid hf8
  have HFL := Lib.hid (And.intro hfl hs1)
  clear hB hW1 hEB hZB hfl hsz hbB hbC hbR2 hbR hown hs1 hF hG hA hbx hok0 hrel0 hgok hrow hcol hg ha0 hf0 hf1 hf2 hf8 hlok hc1 hc2
  go_wp2_with (go_at_call 71; go_in)
  go_loopw [7, 8, 9, 20, 21, 22, 23, 24, 25] (fun p0v p1v p2v yv _ _ _ _ _ wr => ∃ r : Nat, r ≤ (ht + 15) / 16 ∧ yv = .int .i64 (16 * (r : Int)) ∧ ∃ v', (p0v = .int .i32 (iter (rowOf 16 wd g) r a0).l0 ∧ p1v = .int .i32 (iter (rowOf 16 wd g) r a0).l1 ∧ p2v = .int .i32 (iter (rowOf 16 wd g) r a0).l2) ∧ SosRel3 W1 E Z B v1 (iter (rowOf 16 wd g) r a0).s v' wr) (fun _ _ _ yv _ _ _ _ _ _ => ht + 16 - (intOf yv).toNat)
  case atStart =>
    refine ⟨0, by omega, rfl, v1, ⟨by rw [HA0.out]; rfl, by rw [HA0.out]; rfl, by rw [HA0.out]; rfl⟩, ?_⟩
    have := REL0.out
    rw [HB.out.2.1] at this ⊢
    exact this
  case round =>
    obtain ⟨r, hr, rfl, v2, ⟨rfl, rfl, rfl⟩, hrl⟩ := hrel
    have HRL := Lib.hid hrl
    clear hr0 hr1 hr2 hr3
    have hbk : ∀ j, wr.cell? ⟨B + 4, j, none⟩ = W1.cell? ⟨B + 4, j, none⟩ := fun j => by
      obtain ⟨h1, h2, h3⟩ := AX.out (B + 4) (by simp)
      exact hrl.r.k.k.cell (x := ⟨B + 4, j, none⟩) h1 h2 h3
    have hbw : wr.cell? ⟨w1.heap.size + 1 + 1 + 1 + 1, 2, none⟩ = some (.int .i64 wd) := by have := (hbk 2).trans BX.out.1; rw [HB.out.1] at this; exact this
    have hbh : wr.cell? ⟨w1.heap.size + 1 + 1 + 1 + 1, 3, none⟩ = some (.int .i64 ht) := by have := (hbk 3).trans BX.out.2.1; rw [HB.out.1] at this; exact this
    have hb0 : wr.cell? ⟨w1.heap.size + 1 + 1 + 1 + 1, 0, none⟩ = some (.int .i64 0) := by have := (hbk 0).trans BX.out.2.2; rw [HB.out.1] at this; exact this
    clear hrl hbk
    by_cases hry : 16 * r < ht
    · have hryb : decide (16 * (r : Int) < (ht : Int)) = true := by simp; omega
      obtain ⟨wo, rfl⟩ : ∃ wo : World, wo = wr := ⟨_, rfl⟩
      go_wp2_with fail
      go_loopw [7, 8, 9, 21, 22, 23, 24, 25] (fun p0v p1v p2v xv _ _ _ _ wr => ∃ c : Nat, c ≤ (wd + 15) / 16 ∧ xv = .int .i64 (16 * (c : Int)) ∧ ∃ v', (p0v = .int .i32 (iter (fun c => g (16 * c) (16 * r)) c (iter (rowOf 16 wd g) r a0)).l0 ∧ p1v = .int .i32 (iter (fun c => g (16 * c) (16 * r)) c (iter (rowOf 16 wd g) r a0)).l1 ∧ p2v = .int .i32 (iter (fun c => g (16 * c) (16 * r)) c (iter (rowOf 16 wd g) r a0)).l2) ∧ SosRel3 W1 E Z B v1 (iter (fun c => g (16 * c) (16 * r)) c (iter (rowOf 16 wd g) r a0)).s v' wr) (fun _ _ _ xv _ _ _ _ _ => wd + 16 - (intOf xv).toNat)
      case atStart => exact ⟨0, by omega, rfl, v2, ⟨rfl, rfl, rfl⟩, HRL.out⟩
      case round =>
        obtain ⟨c, hc, rfl, v3, ⟨rfl, rfl, rfl⟩, hcl⟩ := hrel
        have HCL := Lib.hid hcl
        have hbk : ∀ j, wr.cell? ⟨B + 4, j, none⟩ = W1.cell? ⟨B + 4, j, none⟩ := fun j => by
          obtain ⟨h1, h2, h3⟩ := AX.out (B + 4) (by simp)
          exact hcl.r.k.k.cell (x := ⟨B + 4, j, none⟩) h1 h2 h3
        have hbw : wr.cell? ⟨w1.heap.size + 1 + 1 + 1 + 1, 2, none⟩ = some (.int .i64 wd) := by have := (hbk 2).trans BX.out.1; rw [HB.out.1] at this; exact this
        obtain ⟨ac, hac⟩ : ∃ ac, ac = iter (fun c => g (16 * c) (16 * r)) c (iter (rowOf 16 wd g) r a0) := ⟨_, rfl⟩
        have hokc := OKC.out r c
        have hnext : iter (fun c => g (16 * c) (16 * r)) (c + 1) (iter (rowOf 16 wd g) r a0) = g (16 * c) (16 * r) ac := by rw [hac]; rfl
        rw [← hac] at HCL hokc
        rw [← hac]
        have HAC := Lib.hid hac
        have HNX := Lib.hid hnext
        have HOK := Lib.hid hokc
        clear hcl hbk hac hnext hokc
        by_cases hcx : 16 * c < wd
        · have hcxb : decide (16 * (c : Int) < (wd : Int)) = true := by simp; omega
          obtain ⟨wo2, rfl⟩ : ∃ wo2 : World, wo2 = wr := ⟨_, rfl⟩
          obtain ⟨⟨D1, hD1, hH1⟩, D2, hD2, hH2⟩ := And.intro HCL.out.c1 HCL.out.c2
          have HD := Lib.hid (And.intro hD1 (And.intro hH1 (And.intro hD2 hH2)))
          clear hD1 hH1 hD2 hH2
          go_wp2_with fail
          go_loopw [7, 22, 23, 24, 25] (fun pv iv _ _ _ wr => ∃ k : Nat, k ≤ 4 ∧ iv = .int .i64 (k : Int) ∧ ∃ v', pv = .int .i32 (iter (mcuLuma Q f0 wd ht (16 * c) (16 * r)) k ac).l0 ∧ SosFour W1 E Z B v1 Q f0 f1 f2 wd ht (16 * c) (16 * r) ac D1 D2 k v' wr) (fun _ iv _ _ _ _ => 4 - (intOf iv).toNat)
          case atStart => exact ⟨0, by omega, rfl, v3, rfl, HCL.out.r, HD.out.2.1, HD.out.2.2.2⟩
          case round =>
            obtain ⟨k, hk, rfl, v4, rfl, hkl⟩ := hrel
            have HKL := Lib.hid hkl
            clear hkl
            by_cases hk4 : k < 4
            · have hkb : decide ((k : Int) < 4) = true := by simp; omega
              have ha1 := and1 k hk4
              have ha2 := and2 k hk4
              have hki : (k : Int) < 4 := by omega
              have hfill : ∀ u : World, Fills [] wr u → Calls Tryd.prog 60 #[.pointer (some ⟨M, 0, none⟩), .agg #[.int .i64 (16 * (c : Int) + (k : Int) % 2 * 8), .int .i64 (16 * (r : Int) + (k : Int) / 2 * 2 * 4)], .pointer (some ⟨w1.heap.size, 0, none⟩), .pointer (some ⟨w1.heap.size + 1, k * 64, none⟩), .pointer (some ⟨w1.heap.size + 1 + 1, k * 64, none⟩)] u fun e w' => e = .returned (.tuple #[]) ∧
                  Fills [B, B + 1, B + 2] wr w' ∧ Holds i32v w' B 0 (lumaB f0 wd ht (16 * c + k % 2 * 8) (16 * r + k / 2 * 8)) ∧ Holds i32v w' (B + 1) 0 (fills f1 wd ht (16 * c) (16 * r) D1 (k + 1)) ∧ Holds i32v w' (B + 2) 0 (fills f2 wd ht (16 * c) (16 * r) D2 (k + 1)) := by
                intro u hu
                rw [← HB.out.1]
                obtain ⟨d, hd, hh⟩ := HKL.out.r.h
                have hG3 := (GX.out.keeps HKL.out.r.k.k.fills (AX.out.not (by simp)) (AX.out.not (by simp)) ).keeps hu (by simp) (by simp) 
                have hav : ∀ m ∈ [M, pb], m ≠ B ∧ m ≠ B + 1 ∧ m ≠ B + 2 := fun m hm => away3Rgb (AX.out m (List.mem_append_left [B + 4] hm)).2.1
                have e1 : 16 * (c : Int) + (k : Int) % 2 * 8 = ((16 * c + k % 2 * 8 : Nat) : Int) := by omega
                have e2 : 16 * (r : Int) + (k : Int) / 2 * 2 * 4 = ((16 * r + k / 2 * 8 : Nat) : Int) := by omega
                rw [e1, e2]
                exact fillRgb wr u M pb wd ht L (16 * c) (16 * r) B k d D1 D2 f0 f1 f2 hG3 (by omega) hk4 hu hd HD.out.1 HD.out.2.2.1 hh HKL.out.h1 HKL.out.h2 (HKL.out.r.o B (by simp)).2 (HKL.out.r.o (B + 1) (by simp)).2 (HKL.out.r.o (B + 2) (by simp)).2 hav HFS.out.1 HFS.out.2.1 HFS.out.2.2
              have HFILL := Lib.hid hfill
              clear hfill
              go_wp2_with (go_at_call 57; go_in)
              have hq := two_boxes wr (16 * (c : Int) + (k : Int) % 2 * 8) (16 * (r : Int) + (k : Int) / 2 * 2 * 4)
              generalize (wr.alloc (.cells #[.int .i64 (16 * (c : Int) + (k : Int) % 2 * 8), .int .i64 (16 * (r : Int) + (k : Int) / 2 * 2 * 4)] 86)).alloc (.cells #[.int .i64 (16 * (c : Int) + (k : Int) % 2 * 8), .int .i64 (16 * (r : Int) + (k : Int) / 2 * 2 * 4)] 86) = W2 at hq ⊢
              obtain ⟨hq0, hq1, hq2⟩ := hq
              have HQ2 := Lib.hid hq2
              clear hq2
              go_region_with (go_at_call 60; refine (HFILL.out _ (HQ2.out.trans (Keeps.drew _ _ _ 1))).mono ?_; rintro e w3 ⟨rfl, hf3, hh0, hh1, hh2⟩)
              obtain ⟨ak, hak⟩ : ∃ ak, ak = iter (mcuLuma Q f0 wd ht (16 * c) (16 * r)) k ac := ⟨_, rfl⟩
              have hnk : iter (mcuLuma Q f0 wd ht (16 * c) (16 * r)) (k + 1) ac = mcuLuma Q f0 wd ht (16 * c) (16 * r) k ak := by rw [hak]; rfl
              have hokk : ak.Ok (1000014 + 546000 * r + 78000 * c + 13000 * k) := by rw [hak]; exact iter_ok _ 13000 (fun k a n h => OKL.out.1 _ _ k a n h) _ _ HOK.out k
              have hkr := HKL.out
              obtain ⟨dB, hdB⟩ : ∃ dB, dB = lumaB f0 wd ht (16 * c + k % 2 * 8) (16 * r + k / 2 * 8) := ⟨_, rfl⟩
              have hdz : dB.size = 64 := by rw [hdB]; exact blkA_size _
              have hdf : ∀ k, k < 64 → (0 : Int) ≤ dB[k]! ∧ dB[k]! ≤ (255 : Int) := by rw [hdB]; exact lumaB_fits _ (fun x y => (HF88.out x y).1) _ _ _ _
              rw [← hdB] at hh0
              obtain ⟨he3, hk3, hF3⟩ := hkr.r.pre hf3 HB.out.2.2.1 HB.out.2.2.2.1 FX.out
              rw [← hak] at he3 ⊢
              have hsm := (blockFits dB (Q 0) ak.l0 hdz hdf (HQ.out 0 (by omega)) hokk.l.1).1
              have hn1 := HB.out.2.2.1
              have hn2 := HB.out.2.2.2.1
              simp at hn1 hn2
              have hwb : Calls Tryd.prog 59 #[.pointer (some ⟨E, 0, none⟩), .pointer (some ⟨w1.heap.size, 0, none⟩), .int .i64 0, .int .i32 ak.l0] w3 (BlockPost E Z B [B] v4 w3 ak.s 0 (Q 0) dB ak.l0) := by
                rw [← HB.out.1]
                exact writeBlock_any w3 E Z B v4 [B] Q ak.s 0 _ ak.l0 he3 (hF3.less (by simp)) (by have := hokk.n; omega) (by omega) (by simp) (fun e => hn1.1 e.symm) (fun e => hn2.1 e.symm) (hkr.r.o B (by simp)).1 hh0 hsm
              have HF3 := Lib.hid hf3
              have HK3 := Lib.hid hk3
              have HWB := Lib.hid hwb
              have HH1 := Lib.hid hh1
              have HH2 := Lib.hid hh2
              have HAK := Lib.hid hak
              have HNK := Lib.hid hnk
              have HDB := Lib.hid hdB
              have HDZ := Lib.hid hdz
              clear hf3 hk3 hwb he3 hF3 hsm hh0 hh1 hh2 hn1 hn2 hak hnk hdB hdz hdf hkr hokk
              go_wp2_with fail
              refine HWB.out.mono ?_
              rintro e w4 ⟨rfl, v5, he5, hk5, hh5, _⟩
              have hl3 := HF3.out.size
              obtain ⟨o1, l1⟩ := HKL.out.r.o (B + 1) (by simp)
              obtain ⟨o2, l2⟩ := HKL.out.r.o (B + 2) (by simp)
              have hn1 := HB.out.2.2.1
              have hn2 := HB.out.2.2.2.1
              simp at hn1 hn2
              have hc1 := holds_same HH1.out (hk5.k.block (B + 1) (by omega) (by simp; omega) o1)
              have hc2 := holds_same HH2.out (hk5.k.block (B + 2) (by omega) (by simp; omega) o2)
              have hpost := HKL.out.r.post HF3.out HK3.out he5 (hk5.wider (by simp)) (fwd_size _ HDZ.out) hh5
              have HP := Lib.hid (And.intro hpost (And.intro hc1 hc2))
              clear he5 hk5 hh5 hpost hc1 hc2 o1 o2 l1 l2 hn1 hn2
              go_wp2_with fail
              go_roundw
              case rel =>
                refine ⟨k + 1, by omega, by go_num, v5, ?_, ?_, HP.out.2.1, HP.out.2.2⟩
                · rw [HNK.out, mcuLuma_l0 _ _ _ _ _ _ _ _ dB HDB.out]
                · rw [HNK.out, mcuLuma_s _ _ _ _ _ _ _ _ dB HDB.out]; exact HP.out.1
              case measure => simp [intOf]; omega
            · obtain rfl : k = 4 := by omega
              obtain ⟨a4, ha4⟩ : ∃ a4, a4 = iter (mcuLuma Q f0 wd ht (16 * c) (16 * r)) 4 ac := ⟨_, rfl⟩
              obtain ⟨dC, hdC⟩ : ∃ d, d = smallB f1 wd ht (16 * c) (16 * r) := ⟨_, rfl⟩
              obtain ⟨dR, hdR⟩ : ∃ d, d = smallB f2 wd ht (16 * c) (16 * r) := ⟨_, rfl⟩
              have hgx : g (16 * c) (16 * r) ac = putBlk Q 2 1 dR (putBlk Q 1 1 dC a4) := by rw [GE.out, ha4, hdC, hdR, mcuColor]
              have hl12 : a4.l1 = ac.l1 ∧ a4.l2 = ac.l2 := by rw [ha4]; exact luma_last _ _ _ _ _ _ _ 4
              have hok4 : a4.Ok (1000014 + 546000 * r + 78000 * c + 52000) := by rw [ha4]; exact iter_ok _ 13000 (fun k a n h => OKL.out.1 _ _ k a n h) _ _ HOK.out 4
              have hok5 : (putBlk Q 1 1 dC a4).Ok (1000014 + 546000 * r + 78000 * c + 65000) := by rw [hdC]; exact (OKL.out.2.1 _ _ _ _ hok4).mono (by omega)
              have hCz : dC.size = 64 ∧ ∀ k, k < 64 → (0 : Int) ≤ dC[k]! ∧ dC[k]! ≤ (255 : Int) := by rw [hdC]; exact ⟨smallB_size _ _ _ _ _, smallB_fits _ (fun x y => (HF88.out x y).2.1) _ _ _ _⟩
              have hRz : dR.size = 64 ∧ ∀ k, k < 64 → (0 : Int) ≤ dR[k]! ∧ dR[k]! ≤ (255 : Int) := by rw [hdR]; exact ⟨smallB_size _ _ _ _ _, smallB_fits _ (fun x y => (HF88.out x y).2.2) _ _ _ _⟩
              obtain ⟨d, hd, hh⟩ := HKL.out.r.h
              have hC1 : Holds i32v wr (B + 1) 0 (fourA f1 wd ht (16 * c) (16 * r)) := by have := HKL.out.h1; rw [fills_four _ _ _ _ _ _ HD.out.1] at this; exact this
              have hC2 : Holds i32v wr (B + 2) 0 (fourA f2 wd ht (16 * c) (16 * r)) := by have := HKL.out.h2; rw [fills_four _ _ _ _ _ _ HD.out.2.2.1] at this; exact this
              have hsc1 : Calls Tryd.prog 62 #[.pointer (some ⟨w1.heap.size, 0, none⟩), .pointer (some ⟨w1.heap.size + 1, 0, none⟩)] wr fun e w' => e = .returned (.tuple #[]) ∧ Fills [B] wr w' ∧ Holds i32v w' B 0 dC := by
                rw [← HB.out.1, hdC]
                exact scale_fill wr B (B + 1) d f1 (fun x y => (HF88.out x y).2.1) wd ht _ _ hd hh hC1 (by omega)
              have HSC1 := Lib.hid hsc1
              have HA4 := Lib.hid ha4
              have HGX := Lib.hid hgx
              have HL12 := Lib.hid hl12
              have HOK4 := Lib.hid (And.intro hok4 hok5)
              have HCZ := Lib.hid (And.intro hCz hRz)
              have HC2 := Lib.hid hC2
              have HDR := Lib.hid hdR
              clear hsc1 ha4 hgx hl12 hok4 hok5 hCz hRz hC1 hC2 hdR hdC hd hh
              go_wp2_with fail
              refine HSC1.out.mono ?_
              rintro e w3 ⟨rfl, hf3, hh3⟩
              obtain ⟨he3, hk3, hF3⟩ := HKL.out.r.pre (hf3.wider (by simp)) HB.out.2.2.1 HB.out.2.2.2.1 FX.out
              rw [← HA4.out] at he3
              have hn1 := HB.out.2.2.1
              have hn2 := HB.out.2.2.2.1
              simp at hn1 hn2
              have hl1 : ac.l1 = a4.l1 := HL12.out.1.symm
              have hwb : Calls Tryd.prog 59 #[.pointer (some ⟨E, 0, none⟩), .pointer (some ⟨w1.heap.size, 0, none⟩), .int .i64 1, .int .i32 ac.l1] w3 (BlockPost E Z B [B] v4 w3 a4.s 1 (Q 1) dC ac.l1) := by
                rw [← HB.out.1, hl1]
                exact writeBlock_any w3 E Z B v4 [B] Q a4.s 1 _ a4.l1 he3 (hF3.less (by simp)) (by have := HOK4.out.1.n; omega) (by omega) (by simp) (fun e => hn1.1 e.symm) (fun e => hn2.1 e.symm) (HKL.out.r.o B (by simp)).1 hh3 (blockFits dC (Q 1) a4.l1 HCZ.out.1.1 HCZ.out.1.2 (HQ.out 1 (by omega)) HOK4.out.1.l.2.1).1
              have hc3 : Holds i32v w3 (B + 2) 0 (fourA f2 wd ht (16 * c) (16 * r)) := holds_same HC2.out (hf3.block (B + 2) (HKL.out.r.o (B + 2) (by simp)).2 (by simp) (by intro e; cases e))
              have HF3 := Lib.hid hf3
              have HK3 := Lib.hid hk3
              have HWB := Lib.hid hwb
              have HC3 := Lib.hid hc3
              clear hf3 hk3 hwb he3 hF3 hh3 hc3 hl1 hn1 hn2
              go_wp2_with fail
              refine HWB.out.mono ?_
              rintro e w4 ⟨rfl, v5, he5, hk5, hh5, _⟩
              have hl3 := HF3.out.size
              obtain ⟨o2, l2⟩ := HKL.out.r.o (B + 2) (by simp)
              have hn1 := HB.out.2.2.1
              have hn2 := HB.out.2.2.2.1
              simp at hn1 hn2
              have hc4 := holds_same HC3.out (hk5.k.block (B + 2) (by omega) (by simp; omega) o2)
              have hpost := HKL.out.r.post (HF3.out.wider (by simp)) HK3.out he5 (hk5.wider (by simp)) (fwd_size _ HCZ.out.1.1) hh5
              have hsc2 : Calls Tryd.prog 62 #[.pointer (some ⟨w1.heap.size, 0, none⟩), .pointer (some ⟨w1.heap.size + 1 + 1, 0, none⟩)] w4 fun e w' => e = .returned (.tuple #[]) ∧ Fills [B] w4 w' ∧ Holds i32v w' B 0 dR := by
                rw [← HB.out.1, HDR.out]
                exact scale_fill w4 B (B + 2) (fwd dC) f2 (fun x y => (HF88.out x y).2.2) wd ht _ _ (fwd_size _ HCZ.out.1.1) hh5 hc4 (by omega)
              have HK45 := Lib.hid hk5.k
              have HNB := Lib.hid (show B + 1 ∉ [E, Z, B] ∧ B + 2 ∉ [E, Z, B] by simp; omega)
              have HP := Lib.hid hpost
              have HSC2 := Lib.hid hsc2
              clear he5 hk5 hh5 hpost hc4 o2 l2 hn1 hn2 hsc2 hl3
              go_wp2_with fail
              refine HSC2.out.mono ?_
              rintro e w5 ⟨rfl, hf5, hh5⟩
              obtain ⟨he5, hk5, hF5⟩ := HP.out.pre (hf5.wider (by simp)) HB.out.2.2.1 HB.out.2.2.2.1 FX.out
              have hn1 := HB.out.2.2.1
              have hn2 := HB.out.2.2.2.1
              simp at hn1 hn2
              obtain ⟨a5, ha5⟩ : ∃ a5, a5 = putBlk Q 1 1 dC a4 := ⟨_, rfl⟩
              have hs5 : blockOut a4.s 1 ac.l1 (quantd (Q 1) dC) = a5.s := by rw [ha5, putBlk1, HL12.out.1]
              have hl5 : ac.l2 = a5.l2 := by rw [ha5, putBlk1]; exact HL12.out.2.symm
              have hok5 := HOK4.out.2
              rw [← ha5] at hok5
              rw [hs5] at he5
              have hwb : Calls Tryd.prog 59 #[.pointer (some ⟨E, 0, none⟩), .pointer (some ⟨w1.heap.size, 0, none⟩), .int .i64 1, .int .i32 ac.l2] w5 (BlockPost E Z B [B] v5 w5 a5.s 1 (Q 1) dR ac.l2) := by
                rw [← HB.out.1, hl5]
                exact writeBlock_any w5 E Z B v5 [B] Q a5.s 1 _ a5.l2 he5 (hF5.less (by simp)) (by have := hok5.n; omega) (by omega) (by simp) (fun e => hn1.1 e.symm) (fun e => hn2.1 e.symm) (HP.out.o B (by simp)).1 hh5 (blockFits dR (Q 1) a5.l2 HCZ.out.2.1 HCZ.out.2.2 (HQ.out 1 (by omega)) hok5.l.2.2).1
              have HF5 := Lib.hid hf5
              have HK5 := Lib.hid hk5
              have HWB5 := Lib.hid hwb
              have HA5 := Lib.hid ha5
              have HL5 := Lib.hid hl5
              have HO1 := Lib.hid (fun b hb => (HKL.out.r.o b hb))
              clear hf5 hk5 hwb he5 hF5 hh5 hn1 hn2 ha5 hl5 hs5 hok5
              go_wp2_with fail
              refine HWB5.out.mono ?_
              rintro e w6 ⟨rfl, v6, he6, hk6, hh6, ho6⟩
              have hpost := HP.out.post (HF5.out.wider (by simp)) HK5.out he6 (hk6.wider (by simp)) (fwd_size _ HCZ.out.2.1) hh6
              have k1 := HF3.out
              have hkc : Keeps [E, Z, B] v4 v6 wr w6 := ((((HF3.out.to v4).wider (by simp)).trans HK45.out).trans ((HF5.out.to v5).wider (by simp))).trans hk6.k
              have HKC := Lib.hid (And.intro (holds_same HKL.out.h1 (hkc.block (B + 1) (HKL.out.r.o (B + 1) (by simp)).2 HNB.out.1 (HKL.out.r.o (B + 1) (by simp)).1)) (holds_same HKL.out.h2 (hkc.block (B + 2) (HKL.out.r.o (B + 2) (by simp)).2 HNB.out.2 (HKL.out.r.o (B + 2) (by simp)).1)))
              clear hkc k1
              have HP6 := Lib.hid hpost
              clear he6 hk6 hh6 hpost ho6
              go_wp2_with fail
              go_roundw
              case rel =>
                refine ⟨c + 1, by omega, by go_num, v6, ?_, ?_⟩
                · have hx : g (16 * c) (16 * r) ac = ⟨blockOut a5.s 1 a5.l2 (quantd (Q 1) dR), a4.l0, quantd (Q 1) dC 0, quantd (Q 1) dR 0⟩ := by rw [HGX.out, ← HA5.out, putBlk2, HA5.out, putBlk1]
                  rw [HNX.out, hx]
                  dsimp only
                  rw [HA4.out]
                  exact ⟨rfl, rfl, rfl⟩
                · have hx : (g (16 * c) (16 * r) ac).s = blockOut a5.s 1 a5.l2 (quantd (Q 1) dR) := by rw [HGX.out, ← HA5.out, putBlk2]
                  rw [HNX.out, hx, ← HL5.out]
                  exact ⟨HP6.out, ⟨_, by rw [fills_size]; exact HD.out.1, HKC.out.1⟩, ⟨_, by rw [fills_size]; exact HD.out.2.2.1, HKC.out.2⟩⟩
              case measure => simp [intOf]; omega
        · obtain rfl : c = (wd + 15) / 16 := by omega
          go_wp2_with fail
          go_roundw
          case rel =>
            have hrw : iter (rowOf 16 wd g) (r + 1) a0 = ac := by rw [HAC.out]; rfl
            exact ⟨r + 1, by omega, by go_num, v3, by rw [hrw]; exact ⟨rfl, rfl, rfl⟩, by rw [hrw]; exact HCL.out⟩
          case measure => simp [intOf]; omega
    · obtain rfl : r = (ht + 15) / 16 := by omega
      have hlast := (OKR.out ((ht + 15) / 16)).n
      go_wp2_with fail
      refine (emit_any wr E Z v2 _ 127 7 HRL.out.r.e (by omega) (by omega) (by decide)).mono ?_
      rintro e w5 ⟨rfl, v5, h5, k5⟩
      have H5 := Lib.hid h5
      have K5 := Lib.hid k5
      clear h5 k5
      go_wp2_with fail
      go_end0
      refine ⟨rfl, v5, ?_, ?_⟩
      · have := H5.out
        rw [GE.out, HA0.out, HFS.out.1, HFS.out.2.1, HFS.out.2.2] at this
        exact this
      · have hs := K1.out.k.size
        exact ((K1.out.then2 (HFL.out.2) (by simp)).then2 HRL.out.r.k (by simp; have := HB.out.1; omega)).trans K5.out

end Go.Proofs.YtlibflbpajeeeaaDoor

namespace Go.Proofs.YtlibflbpajeeeaaDoor
open Go.RowKit Go.Sort
/-- A number of a plane. -/
def yccP (L : List Int) (wd x y : Nat) : Int := L.getD (y * wd + x) 0


theorem away3Ycc {E Z B m : Nat} (h : m ∉ [E, Z, B, B + 1, B + 2]) : m ≠ B ∧ m ≠ B + 1 ∧ m ≠ B + 2 := by
  simp at h
  omega

theorem fillYcc (wr u : World) (M p0 p1 p2 wd ht : Nat) (L0 L1 L2 : List Int) (x y B k : Nat) (d D1 D2 : Array Int) (f0 f1 f2 : Nat → Nat → Int) (hG : YccAt u M p0 p1 p2 wd ht L0 L1 L2) (hx : x ≤ 190 ∧ y ≤ 190) (hk : k < 4) (hu : Fills [] wr u) (hd : d.size = 64) (hD1 : D1.size = 256) (hD2 : D2.size = 256)
    (hh : Holds i32v wr B 0 d) (h1 : Holds i32v wr (B + 1) 0 (fills f1 wd ht x y D1 k)) (h2 : Holds i32v wr (B + 2) 0 (fills f2 wd ht x y D2 k)) (l0 : B < wr.heap.size) (l1 : B + 1 < wr.heap.size) (l2 : B + 2 < wr.heap.size)
    (hav : ∀ m ∈ [M, p0, p1, p2], m ≠ B ∧ m ≠ B + 1 ∧ m ≠ B + 2) (e0 : f0 = (yccP L0 wd)) (e1 : f1 = (yccP L1 wd)) (e2 : f2 = (yccP L2 wd)) :
    Calls Tryd.prog 61 #[.pointer (some ⟨M, 0, none⟩), .agg #[.int .i64 ((x + k % 2 * 8 : Nat) : Int), .int .i64 ((y + k / 2 * 8 : Nat) : Int)], .pointer (some ⟨B, 0, none⟩), .pointer (some ⟨B + 1, k * 64, none⟩), .pointer (some ⟨B + 1 + 1, k * 64, none⟩)] u fun e w' => e = .returned (.tuple #[]) ∧
      Fills [B, B + 1, B + 2] wr w' ∧ Holds i32v w' B 0 (lumaB f0 wd ht (x + k % 2 * 8) (y + k / 2 * 8)) ∧ Holds i32v w' (B + 1) 0 (fills f1 wd ht x y D1 (k + 1)) ∧ Holds i32v w' (B + 2) 0 (fills f2 wd ht x y D2 (k + 1)) := by
  have hno : ∀ g, undef.ownBlock ≠ some g := fun g e => by cases e
  have hs1 : (fills f1 wd ht x y D1 k).size = 256 := by rw [fills_size]; exact hD1
  have hs2 : (fills f2 wd ht x y D2 k).size = 256 := by rw [fills_size]; exact hD2
  have n1 : fills f1 wd ht x y D1 (k + 1) = fillAt (k * 64) (blkG f1 wd ht (x + k % 2 * 8) (y + k / 2 * 8)) (fills f1 wd ht x y D1 k) 64 := (fills_succ _ _ _ _ _ _ k).trans (by simp only [Nat.mul_comm])
  have n2 : fills f2 wd ht x y D2 (k + 1) = fillAt (k * 64) (blkG f2 wd ht (x + k % 2 * 8) (y + k / 2 * 8)) (fills f2 wd ht x y D2 k) 64 := (fills_succ _ _ _ _ _ _ k).trans (by simp only [Nat.mul_comm])
  rw [n1, n2]
  generalize fills f1 wd ht x y D1 k = F1 at h1 hs1 ⊢
  generalize fills f2 wd ht x y D2 k = F2 at h2 hs2 ⊢
  refine (yccFill_any u M p0 p1 p2 wd ht L0 L1 L2 (x + k % 2 * 8) (y + k / 2 * 8) B (B + 1) (B + 2) (k * 64) d F1 F2 hG (by omega) ⟨hd, hs1, hs2, by omega⟩
    (holds_same hh (hu.block B l0 (by simp) (hno _))) (holds_same h1 (hu.block (B + 1) l1 (by simp) (hno _))) (holds_same h2 (hu.block (B + 2) l2 (by simp) (hno _))) ⟨⟨by omega, by omega, by omega⟩, hav⟩).mono ?_
  rintro e w' ⟨he, tf, t0, t1, t2⟩
  rw [fillAt_blk _ _ hd] at t0
  rw [e0, e1, e2]
  exact ⟨he, (hu.wider (by simp)).trans tf, t0, t1, t2⟩

set_option maxRecDepth 100000 in
set_option maxHeartbeats 4000000 in
theorem sosYcc_any (w : World) (E Z : Nat) (M p0 p1 p2 wd ht : Nat) (v : Value) (s : St) (Q : Nat → Nat → Int) (L0 L1 L2 : List Int) (h : EncAt w E Z v s) (hf : Fix w E Z v [] Q) (hQ : ∀ q, q < 2 → ∀ j, j < 64 → 1 ≤ Q q j ∧ Q q j ≤ 255) (hl : s.out.length ≤ 1000000)
    (hg : YccAt w M p0 p1 p2 wd ht L0 L1 L2 ∧ Away v [E, Z] w [M, p0, p1, p2]) (hf8 : ∀ x y, (0 ≤ (yccP L0 wd) x y ∧ (yccP L0 wd) x y ≤ 255) ∧ (0 ≤ (yccP L1 wd) x y ∧ (yccP L1 wd) x y ≤ 255) ∧ (0 ≤ (yccP L2 wd) x y ∧ (yccP L2 wd) x y ≤ 255)) :
    Calls Tryd.prog 46 #[.pointer (some ⟨E, 0, none⟩), .iface 98 (.pointer (some ⟨M, 0, none⟩))] w (Wrote E Z v w (pushBits (scanOf 16 wd ht (mcuColor Q (yccP L0 wd) (yccP L1 wd) (yccP L2 wd) wd ht) ⟨s.put sosC, 0, 0, 0⟩).s 127 7)) := by
  have hz0 := zero144
  obtain ⟨zs, hzs⟩ : ∃ zs : Array Value, zs = Array.replicate 256 (.int .i32 0) := ⟨_, rfl⟩
  rw [← hzs] at hz0
  have hta := fun a w => ta_same 98 (by simp) a w
  have htb := fun a w => ta_other 98 94 (by simp) (by simp) (by decide) a w
  have htc := fun a w => ta_other 98 90 (by simp) (by simp) (by decide) a w
  have HF := Lib.hid hf
  have H := Lib.hid h
  have HG := Lib.hid hg
  have HQ := Lib.hid hQ
  have HZS := Lib.hid hzs
  have HF8 := Lib.hid hf8
  clear hf h hg hQ hzs hf8
  go_enter Tryd.func46, Tryd.ntmps46
  go_wp2_with (go_at_call 56; go_in)
  refine (write_any _ E Z v s sosC ⟨w.heap.size, 0, none⟩ 14 14 (H.out.alloc _) (by omega) (by omega) (by omega) rfl (lit_cells w (sosC.map u8v) 5)).mono ?_
  rintro e w1 ⟨rfl, v1, h1, k1⟩
  have hk1 := (EncStep.alloc E Z v w (.cells (sosC.map u8v).toArray 5) H.out.ltE).trans k1
  have hf1 := HF.out.step (hk1.to [])
  have ha1 := HG.out.2.step hk1.k
  have hg1 := HG.out.1.keeps hk1.k.fills (HG.out.2.not (by simp)) (HG.out.2.not (by simp)) (HG.out.2.not (by simp)) (HG.out.2.not (by simp)) 
  have hr0 := past4 hg1.r0
  have hr1 := past4 hg1.r1
  have hr2 := past4 hg1.r2
  have hr3 := past4 hg1.r3
  have hM : M < w1.heap.size := World.block_lt_of_cell? w1 _ hg1.ys
  obtain ⟨hd1, hd2, hd3, hd4⟩ := hg1.dim
  have H1 := Lib.hid h1
  have K1 := Lib.hid hk1
  have F1 := Lib.hid hf1
  have A1 := Lib.hid ha1
  have G1 := Lib.hid hg1
  clear h1 k1 hk1 hf1 ha1 hg1
  obtain ⟨B, hB⟩ : ∃ B, B = w1.heap.size := ⟨_, rfl⟩
  obtain ⟨W1, hW1⟩ : ∃ W1, W1 = sosW w1 zs wd ht := ⟨_, rfl⟩
  have hEB : E ∉ [B, B + 1, B + 2] := by have := H1.out.ltE; simp; omega
  have hZB : Z ∉ [B, B + 1, B + 2] := by have := H1.out.ltZ; simp; omega
  have hfl : Fills [] w1 W1 := by rw [hW1]; exact sosW_fills _ _ _ _
  have hsz : W1.heap.size = w1.heap.size + 5 := by rw [hW1]; exact sosW_size _ _ _ _
  obtain ⟨hbB, hbC, hbR2, hbR⟩ := sosW_b w1 zs wd ht
  rw [← hW1] at hbB hbC hbR2 hbR
  have hown : ∀ g, v1.ownBlock = some g → g < w1.heap.size := fun g hg => H1.out.z.row.lt hg
  have hs1 : Step2 E Z [] v1 v1 w1 W1 := Step2.ofFills (by exact hfl) (by simp) H1.out.ltE
  have hF : Fix W1 E Z v1 [B, B + 1, B + 2] Q := ((F1.out.more [B, B + 1, B + 2] (by simp; omega))).step (hs1.wider (by simp))
  have hG : YccAt W1 M p0 p1 p2 wd ht L0 L1 L2 := G1.out.keeps hfl (by simp) (by simp) (by simp) (by simp) 
  have hA : Away v1 [E, Z, B, B + 1, B + 2] W1 [M, p0, p1, p2, B + 4] := by
    intro m hm
    simp at hm
    rcases hm with rfl | rfl | rfl | rfl | rfl
    · obtain ⟨h1, h2, h3⟩ := A1.out m (by simp)
      exact ⟨by omega, by simp at h2 ⊢; omega, h3⟩
    · obtain ⟨h1, h2, h3⟩ := A1.out m (by simp)
      exact ⟨by omega, by simp at h2 ⊢; omega, h3⟩
    · obtain ⟨h1, h2, h3⟩ := A1.out m (by simp)
      exact ⟨by omega, by simp at h2 ⊢; omega, h3⟩
    · obtain ⟨h1, h2, h3⟩ := A1.out m (by simp)
      exact ⟨by omega, by simp at h2 ⊢; omega, h3⟩
    · refine ⟨by omega, ?_, fun e => by have := hown _ e; omega⟩
      have h1 := H1.out.ltE
      have h2 := H1.out.ltZ
      simp; omega
  have hbx : W1.cell? ⟨B + 4, 2, none⟩ = some (.int .i64 wd) ∧ W1.cell? ⟨B + 4, 3, none⟩ = some (.int .i64 ht) ∧ W1.cell? ⟨B + 4, 0, none⟩ = some (.int .i64 0) := by
    refine ⟨?_, ?_, ?_⟩ <;> (rw [hB, cell_of_row _ _ _ _ 88 (0, 0) hbR]; rfl)
  obtain ⟨a0, ha0⟩ : ∃ a0 : Sc, a0 = ⟨s.put sosC, 0, 0, 0⟩ := ⟨_, rfl⟩
  have hok0 : a0.Ok 1000014 := by rw [ha0]; exact ⟨⟨by simp, by simp, by simp⟩, by simp [St.put, sosC]; omega⟩
  have hrel0 : SosRel3 W1 E Z B v1 a0.s v1 W1 := by
    rw [ha0]
    refine ⟨⟨H1.out.fills hfl (by simp) (by simp) (fun _ _ => by simp), Step2.refl _ _ _ _ _, ⟨Array.replicate 64 0, by simp, ?_⟩, fun b hb => ?_⟩, ⟨Array.replicate 256 0, by simp, ?_⟩, ⟨Array.replicate 256 0, by simp, ?_⟩⟩
    · refine holds_of_block (t := 126) ?_
      rw [hB, ← z64_lit]
      exact hbB
    · simp at hb
      exact ⟨fun e => by have := hown _ e; omega, by omega⟩
    · refine holds_of_block (t := 144) ?_
      rw [hB, ← z256_map, ← HZS.out]
      exact hbC
    · refine holds_of_block (t := 144) ?_
      rw [hB, ← z256_map, ← HZS.out]
      exact hbR2
  obtain ⟨f0, hf0⟩ : ∃ f, f = (yccP L0 wd) := ⟨_, rfl⟩
  obtain ⟨f1, hf1⟩ : ∃ f, f = (yccP L1 wd) := ⟨_, rfl⟩
  obtain ⟨f2, hf2⟩ : ∃ f, f = (yccP L2 wd) := ⟨_, rfl⟩
  have hf8 := HF8.out
  rw [← hf0, ← hf1, ← hf2] at hf8
  obtain ⟨g, hg⟩ : ∃ g, g = mcuColor Q f0 f1 f2 wd ht := ⟨_, rfl⟩
  have hlok : ∀ x y k a n, a.Ok n → (mcuLuma Q f0 wd ht x y k a).Ok (n + 13000) := fun x y k a n h => putBlk_ok h (by omega) HQ.out (blkA_size _) (lumaB_fits _ (fun x y => (hf8 x y).1) _ _ _ _)
  have hc1 : ∀ x y a n, a.Ok n → (putBlk Q 1 1 (smallB f1 wd ht x y) a).Ok (n + 13000) := fun x y a n h => putBlk_ok h (by omega) HQ.out (smallB_size _ _ _ _ _) (smallB_fits _ (fun x y => (hf8 x y).2.1) _ _ _ _)
  have hc2 : ∀ x y a n, a.Ok n → (putBlk Q 2 1 (smallB f2 wd ht x y) a).Ok (n + 13000) := fun x y a n h => putBlk_ok h (by omega) HQ.out (smallB_size _ _ _ _ _) (smallB_fits _ (fun x y => (hf8 x y).2.2) _ _ _ _)
  have hgok : ∀ x y a n, a.Ok n → (g x y a).Ok (n + 78000) := fun x y a n h => by
    rw [hg]
    exact (hc2 _ _ _ _ (hc1 _ _ _ _ (iter_ok _ 13000 (fun k a n h => hlok _ _ k a n h) a n h 4))).mono (by omega)
  have hrow : ∀ r, (iter (rowOf 16 wd g) r a0).Ok (1000014 + 546000 * r) := iter_ok (rowOf 16 wd g) 546000 (fun r a n h => (iter_ok _ 78000 (fun c a n h => hgok _ _ a n h) a n h _).mono (by omega)) a0 _ hok0
  have hcol : ∀ r c, (iter (fun c => g (16 * c) (16 * r)) c (iter (rowOf 16 wd g) r a0)).Ok (1000014 + 546000 * r + 78000 * c) := fun r c => iter_ok _ 78000 (fun c a n h => hgok _ _ a n h) _ _ (hrow r) c
  have HB := Lib.hid (And.intro hB (And.intro hW1 (And.intro hEB (And.intro hZB hsz))))
  have FX := Lib.hid hF
  have GX := Lib.hid hG
  have AX := Lib.hid hA
  have BX := Lib.hid hbx
  have REL0 := Lib.hid hrel0
  have OKC := Lib.hid hcol
  have OKR := Lib.hid hrow
  have OKL := Lib.hid (And.intro hlok (And.intro hc1 hc2))
  have GE := Lib.hid hg
  have HA0 := Lib.hid ha0
  have HFS := Lib.hid (And.intro hf0 (And.intro hf1 hf2))
  have HF88 := Lib.hid hf8
  have HFL := Lib.hid (And.intro hfl hs1)
  clear hB hW1 hEB hZB hfl hsz hbB hbC hbR2 hbR hown hs1 hF hG hA hbx hok0 hrel0 hgok hrow hcol hg ha0 hf0 hf1 hf2 hf8 hlok hc1 hc2
  go_wp2_with (go_at_call 73; go_in)
  go_loopw [7, 8, 9, 20, 21, 22, 23, 24, 25] (fun p0v p1v p2v yv _ _ _ _ _ wr => ∃ r : Nat, r ≤ (ht + 15) / 16 ∧ yv = .int .i64 (16 * (r : Int)) ∧ ∃ v', (p0v = .int .i32 (iter (rowOf 16 wd g) r a0).l0 ∧ p1v = .int .i32 (iter (rowOf 16 wd g) r a0).l1 ∧ p2v = .int .i32 (iter (rowOf 16 wd g) r a0).l2) ∧ SosRel3 W1 E Z B v1 (iter (rowOf 16 wd g) r a0).s v' wr) (fun _ _ _ yv _ _ _ _ _ _ => ht + 16 - (intOf yv).toNat)
  case atStart =>
    refine ⟨0, by omega, rfl, v1, ⟨by rw [HA0.out]; rfl, by rw [HA0.out]; rfl, by rw [HA0.out]; rfl⟩, ?_⟩
    have := REL0.out
    rw [HB.out.2.1] at this ⊢
    exact this
  case round =>
    obtain ⟨r, hr, rfl, v2, ⟨rfl, rfl, rfl⟩, hrl⟩ := hrel
    have HRL := Lib.hid hrl
    clear hr0 hr1 hr2 hr3
    have hbk : ∀ j, wr.cell? ⟨B + 4, j, none⟩ = W1.cell? ⟨B + 4, j, none⟩ := fun j => by
      obtain ⟨h1, h2, h3⟩ := AX.out (B + 4) (by simp)
      exact hrl.r.k.k.cell (x := ⟨B + 4, j, none⟩) h1 h2 h3
    have hbw : wr.cell? ⟨w1.heap.size + 1 + 1 + 1 + 1, 2, none⟩ = some (.int .i64 wd) := by have := (hbk 2).trans BX.out.1; rw [HB.out.1] at this; exact this
    have hbh : wr.cell? ⟨w1.heap.size + 1 + 1 + 1 + 1, 3, none⟩ = some (.int .i64 ht) := by have := (hbk 3).trans BX.out.2.1; rw [HB.out.1] at this; exact this
    have hb0 : wr.cell? ⟨w1.heap.size + 1 + 1 + 1 + 1, 0, none⟩ = some (.int .i64 0) := by have := (hbk 0).trans BX.out.2.2; rw [HB.out.1] at this; exact this
    clear hrl hbk
    by_cases hry : 16 * r < ht
    · have hryb : decide (16 * (r : Int) < (ht : Int)) = true := by simp; omega
      obtain ⟨wo, rfl⟩ : ∃ wo : World, wo = wr := ⟨_, rfl⟩
      go_wp2_with fail
      go_loopw [7, 8, 9, 21, 22, 23, 24, 25] (fun p0v p1v p2v xv _ _ _ _ wr => ∃ c : Nat, c ≤ (wd + 15) / 16 ∧ xv = .int .i64 (16 * (c : Int)) ∧ ∃ v', (p0v = .int .i32 (iter (fun c => g (16 * c) (16 * r)) c (iter (rowOf 16 wd g) r a0)).l0 ∧ p1v = .int .i32 (iter (fun c => g (16 * c) (16 * r)) c (iter (rowOf 16 wd g) r a0)).l1 ∧ p2v = .int .i32 (iter (fun c => g (16 * c) (16 * r)) c (iter (rowOf 16 wd g) r a0)).l2) ∧ SosRel3 W1 E Z B v1 (iter (fun c => g (16 * c) (16 * r)) c (iter (rowOf 16 wd g) r a0)).s v' wr) (fun _ _ _ xv _ _ _ _ _ => wd + 16 - (intOf xv).toNat)
      case atStart => exact ⟨0, by omega, rfl, v2, ⟨rfl, rfl, rfl⟩, HRL.out⟩
      case round =>
        obtain ⟨c, hc, rfl, v3, ⟨rfl, rfl, rfl⟩, hcl⟩ := hrel
        have HCL := Lib.hid hcl
        have hbk : ∀ j, wr.cell? ⟨B + 4, j, none⟩ = W1.cell? ⟨B + 4, j, none⟩ := fun j => by
          obtain ⟨h1, h2, h3⟩ := AX.out (B + 4) (by simp)
          exact hcl.r.k.k.cell (x := ⟨B + 4, j, none⟩) h1 h2 h3
        have hbw : wr.cell? ⟨w1.heap.size + 1 + 1 + 1 + 1, 2, none⟩ = some (.int .i64 wd) := by have := (hbk 2).trans BX.out.1; rw [HB.out.1] at this; exact this
        obtain ⟨ac, hac⟩ : ∃ ac, ac = iter (fun c => g (16 * c) (16 * r)) c (iter (rowOf 16 wd g) r a0) := ⟨_, rfl⟩
        have hokc := OKC.out r c
        have hnext : iter (fun c => g (16 * c) (16 * r)) (c + 1) (iter (rowOf 16 wd g) r a0) = g (16 * c) (16 * r) ac := by rw [hac]; rfl
        rw [← hac] at HCL hokc
        rw [← hac]
        have HAC := Lib.hid hac
        have HNX := Lib.hid hnext
        have HOK := Lib.hid hokc
        clear hcl hbk hac hnext hokc
        by_cases hcx : 16 * c < wd
        · have hcxb : decide (16 * (c : Int) < (wd : Int)) = true := by simp; omega
          obtain ⟨wo2, rfl⟩ : ∃ wo2 : World, wo2 = wr := ⟨_, rfl⟩
          obtain ⟨⟨D1, hD1, hH1⟩, D2, hD2, hH2⟩ := And.intro HCL.out.c1 HCL.out.c2
          have HD := Lib.hid (And.intro hD1 (And.intro hH1 (And.intro hD2 hH2)))
          clear hD1 hH1 hD2 hH2
          go_wp2_with fail
          go_loopw [7, 22, 23, 24, 25] (fun pv iv _ _ _ wr => ∃ k : Nat, k ≤ 4 ∧ iv = .int .i64 (k : Int) ∧ ∃ v', pv = .int .i32 (iter (mcuLuma Q f0 wd ht (16 * c) (16 * r)) k ac).l0 ∧ SosFour W1 E Z B v1 Q f0 f1 f2 wd ht (16 * c) (16 * r) ac D1 D2 k v' wr) (fun _ iv _ _ _ _ => 4 - (intOf iv).toNat)
          case atStart => exact ⟨0, by omega, rfl, v3, rfl, HCL.out.r, HD.out.2.1, HD.out.2.2.2⟩
          case round =>
            obtain ⟨k, hk, rfl, v4, rfl, hkl⟩ := hrel
            have HKL := Lib.hid hkl
            clear hkl
            by_cases hk4 : k < 4
            · have hkb : decide ((k : Int) < 4) = true := by simp; omega
              have ha1 := and1 k hk4
              have ha2 := and2 k hk4
              have hki : (k : Int) < 4 := by omega
              have hfill : ∀ u : World, Fills [] wr u → Calls Tryd.prog 61 #[.pointer (some ⟨M, 0, none⟩), .agg #[.int .i64 (16 * (c : Int) + (k : Int) % 2 * 8), .int .i64 (16 * (r : Int) + (k : Int) / 2 * 2 * 4)], .pointer (some ⟨w1.heap.size, 0, none⟩), .pointer (some ⟨w1.heap.size + 1, k * 64, none⟩), .pointer (some ⟨w1.heap.size + 1 + 1, k * 64, none⟩)] u fun e w' => e = .returned (.tuple #[]) ∧
                  Fills [B, B + 1, B + 2] wr w' ∧ Holds i32v w' B 0 (lumaB f0 wd ht (16 * c + k % 2 * 8) (16 * r + k / 2 * 8)) ∧ Holds i32v w' (B + 1) 0 (fills f1 wd ht (16 * c) (16 * r) D1 (k + 1)) ∧ Holds i32v w' (B + 2) 0 (fills f2 wd ht (16 * c) (16 * r) D2 (k + 1)) := by
                intro u hu
                rw [← HB.out.1]
                obtain ⟨d, hd, hh⟩ := HKL.out.r.h
                have hG3 := (GX.out.keeps HKL.out.r.k.k.fills (AX.out.not (by simp)) (AX.out.not (by simp)) (AX.out.not (by simp)) (AX.out.not (by simp)) ).keeps hu (by simp) (by simp) (by simp) (by simp) 
                have hav : ∀ m ∈ [M, p0, p1, p2], m ≠ B ∧ m ≠ B + 1 ∧ m ≠ B + 2 := fun m hm => away3Ycc (AX.out m (List.mem_append_left [B + 4] hm)).2.1
                have e1 : 16 * (c : Int) + (k : Int) % 2 * 8 = ((16 * c + k % 2 * 8 : Nat) : Int) := by omega
                have e2 : 16 * (r : Int) + (k : Int) / 2 * 2 * 4 = ((16 * r + k / 2 * 8 : Nat) : Int) := by omega
                rw [e1, e2]
                exact fillYcc wr u M p0 p1 p2 wd ht L0 L1 L2 (16 * c) (16 * r) B k d D1 D2 f0 f1 f2 hG3 (by omega) hk4 hu hd HD.out.1 HD.out.2.2.1 hh HKL.out.h1 HKL.out.h2 (HKL.out.r.o B (by simp)).2 (HKL.out.r.o (B + 1) (by simp)).2 (HKL.out.r.o (B + 2) (by simp)).2 hav HFS.out.1 HFS.out.2.1 HFS.out.2.2
              have HFILL := Lib.hid hfill
              clear hfill
              go_wp2_with (go_at_call 57; go_in)
              have hq := two_boxes wr (16 * (c : Int) + (k : Int) % 2 * 8) (16 * (r : Int) + (k : Int) / 2 * 2 * 4)
              generalize (wr.alloc (.cells #[.int .i64 (16 * (c : Int) + (k : Int) % 2 * 8), .int .i64 (16 * (r : Int) + (k : Int) / 2 * 2 * 4)] 86)).alloc (.cells #[.int .i64 (16 * (c : Int) + (k : Int) % 2 * 8), .int .i64 (16 * (r : Int) + (k : Int) / 2 * 2 * 4)] 86) = W2 at hq ⊢
              obtain ⟨hq0, hq1, hq2⟩ := hq
              have HQ2 := Lib.hid hq2
              clear hq2
              go_region_with (go_at_call 61; refine (HFILL.out _ (HQ2.out.trans (Keeps.drew _ _ _ 1))).mono ?_; rintro e w3 ⟨rfl, hf3, hh0, hh1, hh2⟩)
              obtain ⟨ak, hak⟩ : ∃ ak, ak = iter (mcuLuma Q f0 wd ht (16 * c) (16 * r)) k ac := ⟨_, rfl⟩
              have hnk : iter (mcuLuma Q f0 wd ht (16 * c) (16 * r)) (k + 1) ac = mcuLuma Q f0 wd ht (16 * c) (16 * r) k ak := by rw [hak]; rfl
              have hokk : ak.Ok (1000014 + 546000 * r + 78000 * c + 13000 * k) := by rw [hak]; exact iter_ok _ 13000 (fun k a n h => OKL.out.1 _ _ k a n h) _ _ HOK.out k
              have hkr := HKL.out
              obtain ⟨dB, hdB⟩ : ∃ dB, dB = lumaB f0 wd ht (16 * c + k % 2 * 8) (16 * r + k / 2 * 8) := ⟨_, rfl⟩
              have hdz : dB.size = 64 := by rw [hdB]; exact blkA_size _
              have hdf : ∀ k, k < 64 → (0 : Int) ≤ dB[k]! ∧ dB[k]! ≤ (255 : Int) := by rw [hdB]; exact lumaB_fits _ (fun x y => (HF88.out x y).1) _ _ _ _
              rw [← hdB] at hh0
              obtain ⟨he3, hk3, hF3⟩ := hkr.r.pre hf3 HB.out.2.2.1 HB.out.2.2.2.1 FX.out
              rw [← hak] at he3 ⊢
              have hsm := (blockFits dB (Q 0) ak.l0 hdz hdf (HQ.out 0 (by omega)) hokk.l.1).1
              have hn1 := HB.out.2.2.1
              have hn2 := HB.out.2.2.2.1
              simp at hn1 hn2
              have hwb : Calls Tryd.prog 59 #[.pointer (some ⟨E, 0, none⟩), .pointer (some ⟨w1.heap.size, 0, none⟩), .int .i64 0, .int .i32 ak.l0] w3 (BlockPost E Z B [B] v4 w3 ak.s 0 (Q 0) dB ak.l0) := by
                rw [← HB.out.1]
                exact writeBlock_any w3 E Z B v4 [B] Q ak.s 0 _ ak.l0 he3 (hF3.less (by simp)) (by have := hokk.n; omega) (by omega) (by simp) (fun e => hn1.1 e.symm) (fun e => hn2.1 e.symm) (hkr.r.o B (by simp)).1 hh0 hsm
              have HF3 := Lib.hid hf3
              have HK3 := Lib.hid hk3
              have HWB := Lib.hid hwb
              have HH1 := Lib.hid hh1
              have HH2 := Lib.hid hh2
              have HAK := Lib.hid hak
              have HNK := Lib.hid hnk
              have HDB := Lib.hid hdB
              have HDZ := Lib.hid hdz
              clear hf3 hk3 hwb he3 hF3 hsm hh0 hh1 hh2 hn1 hn2 hak hnk hdB hdz hdf hkr hokk
              go_wp2_with fail
              refine HWB.out.mono ?_
              rintro e w4 ⟨rfl, v5, he5, hk5, hh5, _⟩
              have hl3 := HF3.out.size
              obtain ⟨o1, l1⟩ := HKL.out.r.o (B + 1) (by simp)
              obtain ⟨o2, l2⟩ := HKL.out.r.o (B + 2) (by simp)
              have hn1 := HB.out.2.2.1
              have hn2 := HB.out.2.2.2.1
              simp at hn1 hn2
              have hc1 := holds_same HH1.out (hk5.k.block (B + 1) (by omega) (by simp; omega) o1)
              have hc2 := holds_same HH2.out (hk5.k.block (B + 2) (by omega) (by simp; omega) o2)
              have hpost := HKL.out.r.post HF3.out HK3.out he5 (hk5.wider (by simp)) (fwd_size _ HDZ.out) hh5
              have HP := Lib.hid (And.intro hpost (And.intro hc1 hc2))
              clear he5 hk5 hh5 hpost hc1 hc2 o1 o2 l1 l2 hn1 hn2
              go_wp2_with fail
              go_roundw
              case rel =>
                refine ⟨k + 1, by omega, by go_num, v5, ?_, ?_, HP.out.2.1, HP.out.2.2⟩
                · rw [HNK.out, mcuLuma_l0 _ _ _ _ _ _ _ _ dB HDB.out]
                · rw [HNK.out, mcuLuma_s _ _ _ _ _ _ _ _ dB HDB.out]; exact HP.out.1
              case measure => simp [intOf]; omega
            · obtain rfl : k = 4 := by omega
              obtain ⟨a4, ha4⟩ : ∃ a4, a4 = iter (mcuLuma Q f0 wd ht (16 * c) (16 * r)) 4 ac := ⟨_, rfl⟩
              obtain ⟨dC, hdC⟩ : ∃ d, d = smallB f1 wd ht (16 * c) (16 * r) := ⟨_, rfl⟩
              obtain ⟨dR, hdR⟩ : ∃ d, d = smallB f2 wd ht (16 * c) (16 * r) := ⟨_, rfl⟩
              have hgx : g (16 * c) (16 * r) ac = putBlk Q 2 1 dR (putBlk Q 1 1 dC a4) := by rw [GE.out, ha4, hdC, hdR, mcuColor]
              have hl12 : a4.l1 = ac.l1 ∧ a4.l2 = ac.l2 := by rw [ha4]; exact luma_last _ _ _ _ _ _ _ 4
              have hok4 : a4.Ok (1000014 + 546000 * r + 78000 * c + 52000) := by rw [ha4]; exact iter_ok _ 13000 (fun k a n h => OKL.out.1 _ _ k a n h) _ _ HOK.out 4
              have hok5 : (putBlk Q 1 1 dC a4).Ok (1000014 + 546000 * r + 78000 * c + 65000) := by rw [hdC]; exact (OKL.out.2.1 _ _ _ _ hok4).mono (by omega)
              have hCz : dC.size = 64 ∧ ∀ k, k < 64 → (0 : Int) ≤ dC[k]! ∧ dC[k]! ≤ (255 : Int) := by rw [hdC]; exact ⟨smallB_size _ _ _ _ _, smallB_fits _ (fun x y => (HF88.out x y).2.1) _ _ _ _⟩
              have hRz : dR.size = 64 ∧ ∀ k, k < 64 → (0 : Int) ≤ dR[k]! ∧ dR[k]! ≤ (255 : Int) := by rw [hdR]; exact ⟨smallB_size _ _ _ _ _, smallB_fits _ (fun x y => (HF88.out x y).2.2) _ _ _ _⟩
              obtain ⟨d, hd, hh⟩ := HKL.out.r.h
              have hC1 : Holds i32v wr (B + 1) 0 (fourA f1 wd ht (16 * c) (16 * r)) := by have := HKL.out.h1; rw [fills_four _ _ _ _ _ _ HD.out.1] at this; exact this
              have hC2 : Holds i32v wr (B + 2) 0 (fourA f2 wd ht (16 * c) (16 * r)) := by have := HKL.out.h2; rw [fills_four _ _ _ _ _ _ HD.out.2.2.1] at this; exact this
              have hsc1 : Calls Tryd.prog 62 #[.pointer (some ⟨w1.heap.size, 0, none⟩), .pointer (some ⟨w1.heap.size + 1, 0, none⟩)] wr fun e w' => e = .returned (.tuple #[]) ∧ Fills [B] wr w' ∧ Holds i32v w' B 0 dC := by
                rw [← HB.out.1, hdC]
                exact scale_fill wr B (B + 1) d f1 (fun x y => (HF88.out x y).2.1) wd ht _ _ hd hh hC1 (by omega)
              have HSC1 := Lib.hid hsc1
              have HA4 := Lib.hid ha4
              have HGX := Lib.hid hgx
              have HL12 := Lib.hid hl12
              have HOK4 := Lib.hid (And.intro hok4 hok5)
              have HCZ := Lib.hid (And.intro hCz hRz)
              have HC2 := Lib.hid hC2
              have HDR := Lib.hid hdR
              clear hsc1 ha4 hgx hl12 hok4 hok5 hCz hRz hC1 hC2 hdR hdC hd hh
              go_wp2_with fail
              refine HSC1.out.mono ?_
              rintro e w3 ⟨rfl, hf3, hh3⟩
              obtain ⟨he3, hk3, hF3⟩ := HKL.out.r.pre (hf3.wider (by simp)) HB.out.2.2.1 HB.out.2.2.2.1 FX.out
              rw [← HA4.out] at he3
              have hn1 := HB.out.2.2.1
              have hn2 := HB.out.2.2.2.1
              simp at hn1 hn2
              have hl1 : ac.l1 = a4.l1 := HL12.out.1.symm
              have hwb : Calls Tryd.prog 59 #[.pointer (some ⟨E, 0, none⟩), .pointer (some ⟨w1.heap.size, 0, none⟩), .int .i64 1, .int .i32 ac.l1] w3 (BlockPost E Z B [B] v4 w3 a4.s 1 (Q 1) dC ac.l1) := by
                rw [← HB.out.1, hl1]
                exact writeBlock_any w3 E Z B v4 [B] Q a4.s 1 _ a4.l1 he3 (hF3.less (by simp)) (by have := HOK4.out.1.n; omega) (by omega) (by simp) (fun e => hn1.1 e.symm) (fun e => hn2.1 e.symm) (HKL.out.r.o B (by simp)).1 hh3 (blockFits dC (Q 1) a4.l1 HCZ.out.1.1 HCZ.out.1.2 (HQ.out 1 (by omega)) HOK4.out.1.l.2.1).1
              have hc3 : Holds i32v w3 (B + 2) 0 (fourA f2 wd ht (16 * c) (16 * r)) := holds_same HC2.out (hf3.block (B + 2) (HKL.out.r.o (B + 2) (by simp)).2 (by simp) (by intro e; cases e))
              have HF3 := Lib.hid hf3
              have HK3 := Lib.hid hk3
              have HWB := Lib.hid hwb
              have HC3 := Lib.hid hc3
              clear hf3 hk3 hwb he3 hF3 hh3 hc3 hl1 hn1 hn2
              go_wp2_with fail
              refine HWB.out.mono ?_
              rintro e w4 ⟨rfl, v5, he5, hk5, hh5, _⟩
              have hl3 := HF3.out.size
              obtain ⟨o2, l2⟩ := HKL.out.r.o (B + 2) (by simp)
              have hn1 := HB.out.2.2.1
              have hn2 := HB.out.2.2.2.1
              simp at hn1 hn2
              have hc4 := holds_same HC3.out (hk5.k.block (B + 2) (by omega) (by simp; omega) o2)
              have hpost := HKL.out.r.post (HF3.out.wider (by simp)) HK3.out he5 (hk5.wider (by simp)) (fwd_size _ HCZ.out.1.1) hh5
              have hsc2 : Calls Tryd.prog 62 #[.pointer (some ⟨w1.heap.size, 0, none⟩), .pointer (some ⟨w1.heap.size + 1 + 1, 0, none⟩)] w4 fun e w' => e = .returned (.tuple #[]) ∧ Fills [B] w4 w' ∧ Holds i32v w' B 0 dR := by
                rw [← HB.out.1, HDR.out]
                exact scale_fill w4 B (B + 2) (fwd dC) f2 (fun x y => (HF88.out x y).2.2) wd ht _ _ (fwd_size _ HCZ.out.1.1) hh5 hc4 (by omega)
              have HK45 := Lib.hid hk5.k
              have HNB := Lib.hid (show B + 1 ∉ [E, Z, B] ∧ B + 2 ∉ [E, Z, B] by simp; omega)
              have HP := Lib.hid hpost
              have HSC2 := Lib.hid hsc2
              clear he5 hk5 hh5 hpost hc4 o2 l2 hn1 hn2 hsc2 hl3
              go_wp2_with fail
              refine HSC2.out.mono ?_
              rintro e w5 ⟨rfl, hf5, hh5⟩
              obtain ⟨he5, hk5, hF5⟩ := HP.out.pre (hf5.wider (by simp)) HB.out.2.2.1 HB.out.2.2.2.1 FX.out
              have hn1 := HB.out.2.2.1
              have hn2 := HB.out.2.2.2.1
              simp at hn1 hn2
              obtain ⟨a5, ha5⟩ : ∃ a5, a5 = putBlk Q 1 1 dC a4 := ⟨_, rfl⟩
              have hs5 : blockOut a4.s 1 ac.l1 (quantd (Q 1) dC) = a5.s := by rw [ha5, putBlk1, HL12.out.1]
              have hl5 : ac.l2 = a5.l2 := by rw [ha5, putBlk1]; exact HL12.out.2.symm
              have hok5 := HOK4.out.2
              rw [← ha5] at hok5
              rw [hs5] at he5
              have hwb : Calls Tryd.prog 59 #[.pointer (some ⟨E, 0, none⟩), .pointer (some ⟨w1.heap.size, 0, none⟩), .int .i64 1, .int .i32 ac.l2] w5 (BlockPost E Z B [B] v5 w5 a5.s 1 (Q 1) dR ac.l2) := by
                rw [← HB.out.1, hl5]
                exact writeBlock_any w5 E Z B v5 [B] Q a5.s 1 _ a5.l2 he5 (hF5.less (by simp)) (by have := hok5.n; omega) (by omega) (by simp) (fun e => hn1.1 e.symm) (fun e => hn2.1 e.symm) (HP.out.o B (by simp)).1 hh5 (blockFits dR (Q 1) a5.l2 HCZ.out.2.1 HCZ.out.2.2 (HQ.out 1 (by omega)) hok5.l.2.2).1
              have HF5 := Lib.hid hf5
              have HK5 := Lib.hid hk5
              have HWB5 := Lib.hid hwb
              have HA5 := Lib.hid ha5
              have HL5 := Lib.hid hl5
              have HO1 := Lib.hid (fun b hb => (HKL.out.r.o b hb))
              clear hf5 hk5 hwb he5 hF5 hh5 hn1 hn2 ha5 hl5 hs5 hok5
              go_wp2_with fail
              refine HWB5.out.mono ?_
              rintro e w6 ⟨rfl, v6, he6, hk6, hh6, ho6⟩
              have hpost := HP.out.post (HF5.out.wider (by simp)) HK5.out he6 (hk6.wider (by simp)) (fwd_size _ HCZ.out.2.1) hh6
              have k1 := HF3.out
              have hkc : Keeps [E, Z, B] v4 v6 wr w6 := ((((HF3.out.to v4).wider (by simp)).trans HK45.out).trans ((HF5.out.to v5).wider (by simp))).trans hk6.k
              have HKC := Lib.hid (And.intro (holds_same HKL.out.h1 (hkc.block (B + 1) (HKL.out.r.o (B + 1) (by simp)).2 HNB.out.1 (HKL.out.r.o (B + 1) (by simp)).1)) (holds_same HKL.out.h2 (hkc.block (B + 2) (HKL.out.r.o (B + 2) (by simp)).2 HNB.out.2 (HKL.out.r.o (B + 2) (by simp)).1)))
              clear hkc k1
              have HP6 := Lib.hid hpost
              clear he6 hk6 hh6 hpost ho6
              go_wp2_with fail
              go_roundw
              case rel =>
                refine ⟨c + 1, by omega, by go_num, v6, ?_, ?_⟩
                · have hx : g (16 * c) (16 * r) ac = ⟨blockOut a5.s 1 a5.l2 (quantd (Q 1) dR), a4.l0, quantd (Q 1) dC 0, quantd (Q 1) dR 0⟩ := by rw [HGX.out, ← HA5.out, putBlk2, HA5.out, putBlk1]
                  rw [HNX.out, hx]
                  dsimp only
                  rw [HA4.out]
                  exact ⟨rfl, rfl, rfl⟩
                · have hx : (g (16 * c) (16 * r) ac).s = blockOut a5.s 1 a5.l2 (quantd (Q 1) dR) := by rw [HGX.out, ← HA5.out, putBlk2]
                  rw [HNX.out, hx, ← HL5.out]
                  exact ⟨HP6.out, ⟨_, by rw [fills_size]; exact HD.out.1, HKC.out.1⟩, ⟨_, by rw [fills_size]; exact HD.out.2.2.1, HKC.out.2⟩⟩
              case measure => simp [intOf]; omega
        · obtain rfl : c = (wd + 15) / 16 := by omega
          go_wp2_with fail
          go_roundw
          case rel =>
            have hrw : iter (rowOf 16 wd g) (r + 1) a0 = ac := by rw [HAC.out]; rfl
            exact ⟨r + 1, by omega, by go_num, v3, by rw [hrw]; exact ⟨rfl, rfl, rfl⟩, by rw [hrw]; exact HCL.out⟩
          case measure => simp [intOf]; omega
    · obtain rfl : r = (ht + 15) / 16 := by omega
      have hlast := (OKR.out ((ht + 15) / 16)).n
      go_wp2_with fail
      refine (emit_any wr E Z v2 _ 127 7 HRL.out.r.e (by omega) (by omega) (by decide)).mono ?_
      rintro e w5 ⟨rfl, v5, h5, k5⟩
      have H5 := Lib.hid h5
      have K5 := Lib.hid k5
      clear h5 k5
      go_wp2_with fail
      go_end0
      refine ⟨rfl, v5, ?_, ?_⟩
      · have := H5.out
        rw [GE.out, HA0.out, HFS.out.1, HFS.out.2.1, HFS.out.2.2] at this
        exact this
      · have hs := K1.out.k.size
        exact ((K1.out.then2 (HFL.out.2) (by simp)).then2 HRL.out.r.k (by simp; have := HB.out.1; omega)).trans K5.out

end Go.Proofs.YtlibflbpajeeeaaDoor
