/- The walk of FnEncode over a gray picture. Printed by wip/gen/law.py. The walk of FnEncode over a picture of luma and chroma. Printed by wip/gen/law.py. The walk of FnEncode over a picture of red, green and blue. Printed by wip/gen/law.py. (Joined by wip/gen/merge.py.) -/
import Derived.Test.YtlibflbpajeeeaaDoorLawPl
import Derived.Deep.RegionHeld3
import Derived.Lib.Hide
import Derived.StillTailTactics
import Derived.Deep.DeepMust
namespace Go.Proofs.YtlibflbpajeeeaaDoor
open Go.RowKit

set_option maxRecDepth 100000 in
set_option maxHeartbeats 4000000 in
theorem law_gray (w : World) (ad : Option Addr) (len cap : Nat) (kind q0 : Int) (told : Bool) (hl : len ≤ 100) (hnum : NumsAt w ad len) (hL : Laid w) (hk : 0 ≤ kind ∧ kind ≤ 255) (hk0 : kind % 3 = 0) (hq : -32768 ≤ q0 ∧ q0 ≤ 32767) :
    Calls Tryd.prog 3 #[.slice ad len cap, .int .u8 kind, .int .i16 q0, .bool told] w fun e w' => e = .returned (.bool true) ∧ Below w.heap.size w w' := by
  have hl' : (len : Int) ≤ 100 := by omega
  have hkr : kind.tmod 3 = 0 := by rw [Int.tmod_eq_emod_of_nonneg hk.1]; exact hk0
  obtain ⟨hq1, hq2⟩ := hq
  have HNUM := Lib.hid hnum
  have HL := Lib.hid hL
  clear hnum hL hk hk0
  go_enter Tryd.func3, Tryd.ntmps3
  go_wp2_with fail
  refine (below_any 40 (by omega) (by omega) _ w.heap.size ad len cap 0 (mix_new hl HNUM.out) (by omega)).mono ?_
  rintro e w1 ⟨v1, hv10, hv11, rfl, hm1, ho1⟩
  obtain ⟨wd, hwd⟩ : ∃ wd : Nat, (wd : Int) = 1 + v1 := ⟨(1 + v1).toNat, by omega⟩
  have hw1 : IntKind.i64.wrap (1 + v1) = (wd : Int) := by rw [hwd]; exact IntWalk.i64_in _ (by omega)
  have HM1 := Lib.hid hm1
  have HO1 := Lib.hid ho1
  have HWD := Lib.hid hwd
  clear hm1 ho1 hwd
  go_wp2_with fail
  refine (below_any 40 (by omega) (by omega) _ w.heap.size ad len cap (0 + 1) HM1.out (by omega)).mono ?_
  rintro e w2 ⟨v2, hv20, hv21, rfl, hm2, ho2⟩
  obtain ⟨ht, hht⟩ : ∃ ht : Nat, (ht : Int) = 1 + v2 := ⟨(1 + v2).toNat, by omega⟩
  have hw2 : IntKind.i64.wrap (1 + v2) = (ht : Int) := by rw [hht]; exact IntWalk.i64_in _ (by omega)
  have hdim : 1 ≤ wd ∧ wd ≤ 40 ∧ 1 ≤ ht ∧ ht ≤ 40 := by
    have := HWD.out
    omega
  obtain ⟨n, hn⟩ : ∃ n, n = wd * ht := ⟨_, rfl⟩
  have hn0 : 0 < n := by rw [hn]; exact Nat.mul_pos hdim.1 hdim.2.2.1
  have hn1 : n ≤ 1600 := by rw [hn]; exact Nat.le_trans (Nat.mul_le_mul hdim.2.1 hdim.2.2.2) (by omega)
  have hni : (wd : Int) * (ht : Int) = (n : Int) := by rw [hn]; norm_cast
  have hwh : IntKind.i64.wrap ((wd : Int) * (ht : Int)) = (n : Int) := by rw [hni]; exact IntWalk.i64_in _ (by omega)
  have hmid := Mid.start (k := 1) (wd := wd) (ht := ht) (rt := (-1)) HO1.out ho2
  have HMID := Lib.hid hmid
  have hz2 : w2.heap.size = w.heap.size + 1 := hmid.wz
  have hmx := hm2.kept (Below.alloc (Below.alloc (Below.refl w2.heap.size w2) (Nat.le_refl _) (.cells #[.int .i64 wd] 3)) (by simp) (.cells #[.int .i64 1, .int .i64 wd, .int .i64 ht, .int .i64 (-1), .slice none 0 0] 30)) (by omega)
  have HMX := Lib.hid hmx
  have HN := Lib.hid hn
  have HNI := Lib.hid hni
  have HDIM := Lib.hid hdim
  have HZ2 := Lib.hid hz2
  clear hm2 ho2 hht hmid hmx hn hdim hz2 hni HNUM HM1 HO1
  go_wp2_with fail
  refine (pixels_any n (by omega) _ w.heap.size ad len cap (0 + 1 + 1) (by have := HZ2.out; simp; omega) HMX.out (by omega)).mono ?_
  rintro e w3 ⟨v, L, p, rfl, hLn, hb, hown, -, -, hap⟩
  obtain ⟨g, c, rfl, hg, hrow⟩ := pix_row hn0 hLn hown
  have hmid3 := HMID.out.apart hap
  have hst := hmid3.stored 1 #[.slice (some ⟨g, 0, none⟩) n c]
  have hgl : g < w3.heap.size := hrow.lt rfl
  have hru := hrow.same (w' := _) (fun k hk => by obtain rfl : g = k := by simpa [Value.ownBlock] using hk
                                                  exact hst.lo g hgl (by simpa using hg))
  have hd100 : 1 ≤ wd ∧ wd ≤ 100 ∧ 1 ≤ ht ∧ ht ≤ 100 := by have := HDIM.out; omega
  have hR := ready_gray (q0 := q0) (told := told) (L := L) (g := g) (c := c) hst.bw (HL.out.below hst.bw) hd100 ⟨hq1, hq2⟩ hst.pc hst.wc (by rw [cell_of_row _ _ _ _ _ _ hst.pl, ← HN.out]; rfl) (by rw [← HN.out]; exact hru) (by rw [← HN.out]; exact hLn) hb
  obtain ⟨F, pv, HR⟩ : ∃ F pv, Hid (Ready w ((w3.setCell ⟨w2.heap.size + 1, 4, none⟩ (.slice (some ⟨w3.heap.size, 0, none⟩) 1 1)).alloc (.cells #[.slice (some ⟨g, 0, none⟩) n c] 32)) (w2.heap.size + 1) w2.heap.size wd ht 1 pv (.func (.func 5) #[] #[.pointer (some ⟨w2.heap.size + 1, 0, none⟩), .pointer (some ⟨w2.heap.size, 0, none⟩)]) q0 told F) := ⟨_, _, Lib.hid hR⟩
  have hPc : w3.cell? ⟨w2.heap.size + 1, 4, none⟩ = some (.slice none 0 0) := by rw [cell_of_row _ _ _ _ _ _ hmid3.pc]; rfl
  have hPf : w3.frozen? ⟨w2.heap.size + 1, 4, none⟩ = false := frozen_of_row _ _ _ _ _ hmid3.pc
  have hzP : w2.heap.size + 1 < w3.heap.size := hmid3.sz
  clear hLn hb hown hap hg hrow hmid3 hst hru hd100 hR hgl
  go_upto_region 22 with fail
  generalize (w3.setCell ⟨w2.heap.size + 1, 4, none⟩ (.slice (some ⟨w3.heap.size, 0, none⟩) 1 1)).alloc (.cells #[.slice (some ⟨g, 0, none⟩) n c] 32) = u at HR ⊢
  clear HMX HMID HN
  go_wp2_with ((with_reducible show wpList _ _ _ (⟨some 96, .load 30 (.tmp 12), _, _, _, _⟩ :: _) _ _); go_must (refine wpList_load_row rfl 30 (.tmp 12) rfl (w2.heap.size + 1) rfl 30 pv (0, 0) _ HR.out.pc Tryd.underlying30 rfl HR.out.pz ?_))
  refine (HR.out.im _ (Below.refl _ _)).mono ?_
  rintro e w4 ⟨v, rfl, hrow, hb4, -⟩
  obtain ⟨g4, c4, rfl⟩ : ∃ g4 c4, v = .slice (some ⟨g4, 0, none⟩) F.length c4 := by
    rcases hrow.form with ⟨_, h⟩ | ⟨g4, c4, h, _⟩
    · exact absurd (List.map_eq_nil_iff.1 h) HR.out.ne
    · exact ⟨g4, c4, by rw [h, List.length_map]⟩
  have HROW := Lib.hid hrow
  have HB4 := Lib.hid hb4
  clear hrow hb4
  have hcW : w4.cell? ⟨w2.heap.size, 0, none⟩ = some (.int .i64 wd) := cellBelow HR.out.wc HB4.out
  have hcP : w4.cell? ⟨w2.heap.size + 1, 0, none⟩ = some (.int .i64 1) := cellBelow (by rw [cell_of_row _ _ _ _ _ _ HR.out.pc]; exact HR.out.k0) HB4.out
  have hS : ∀ w', Below w4.heap.size w4 w' → (w'.cell? ⟨w2.heap.size, 0, none⟩ = some (.int .i64 wd) ∧ w'.cell? ⟨w2.heap.size + 1, 0, none⟩ = some (.int .i64 1)) ∧ Below w4.heap.size w4 w' := fun w' h => ⟨⟨cellBelow hcW h, cellBelow hcP h⟩, h⟩
  have HS := Lib.hid hS
  clear hS hcW hcP
  go_upto_region 23 with fail
  refine wp_region_noPanic ?_
  refine wp_region_held_drew (S := fun w' => (w'.cell? ⟨w2.heap.size, 0, none⟩ = some (.int .i64 wd) ∧ w'.cell? ⟨w2.heap.size + 1, 0, none⟩ = some (.int .i64 1)) ∧ Below w4.heap.size w4 w') (by kernel_rfl) (HS.out _ (Below.drew (Below.refl _ _))) (fun hHeld => ?_)
  refine wpAnyH_take (i := 0) (oi := _) (v := ?_) rfl (by kernel_rfl) (by kernel_rfl) (by kernel_rfl) (fun _ _ _ h => h) (Or.inl ⟨?_, ?_⟩) hHeld ?_
  rotate_left
  · rfl
  · intro w hSw; (try dsimp only at hSw); first | (go_simp; done) | (go_simp; with_reducible rfl)
  try simp only [Act.put, List.getElem_toArray, List.getElem_cons_zero, List.setIfInBounds_toArray, List.set_cons_zero, List.set_cons_succ]
  refine wpAnyH_take (i := 1) (oi := _) (v := ?_) rfl (by kernel_rfl) (by kernel_rfl) (by kernel_rfl) (fun _ _ _ h => h) (Or.inl ⟨?_, ?_⟩) hHeld ?_
  rotate_left
  · rfl
  · intro w hSw; (try dsimp only at hSw); first | (go_simp; done) | (go_simp; with_reducible rfl)
  try simp only [Act.put, List.getElem_toArray, List.getElem_cons_succ, List.getElem_cons_zero, List.setIfInBounds_toArray, List.set_cons_zero, List.set_cons_succ]
  refine wpAnyH_take (i := 2) (oi := _) (v := ?_) rfl (by kernel_rfl) (by kernel_rfl) (by kernel_rfl) (fun _ _ _ h => h) (Or.inl ⟨?_, ?_⟩) hHeld ?_
  rotate_left
  · rfl
  · intro w hSw; (try dsimp only at hSw); first | (go_simp; done) | (go_simp; with_reducible rfl)
  try simp only [Act.put, List.getElem_toArray, List.getElem_cons_succ, List.getElem_cons_zero, List.setIfInBounds_toArray, List.set_cons_zero, List.set_cons_succ]
  refine wpAnyH_take (i := 3) (oi := _) (v := ?_) rfl (by kernel_rfl) (by kernel_rfl) (by kernel_rfl) (fun _ _ _ h => h) (Or.inl ⟨?_, ?_⟩) hHeld ?_
  rotate_left
  · rfl
  · intro w hSw; (try dsimp only at hSw); first | (go_simp; done) | (go_simp; with_reducible rfl)
  try simp only [Act.put, List.getElem_toArray, List.getElem_cons_succ, List.getElem_cons_zero, List.setIfInBounds_toArray, List.set_cons_zero, List.set_cons_succ]
  refine wpAnyH_take (i := 4) (oi := _) (v := ?_) rfl (by kernel_rfl) (by kernel_rfl) (by kernel_rfl) (fun _ _ _ h => h) (Or.inl ⟨?_, ?_⟩) hHeld ?_
  rotate_left
  · rfl
  · intro w hSw; (try dsimp only at hSw); have hcv := conv_row (rowBelow HROW.out hSw.2); first | (go_simp; done) | (go_simp; with_reducible rfl)
  try simp only [Act.put, List.getElem_toArray, List.getElem_cons_succ, List.getElem_cons_zero, List.setIfInBounds_toArray, List.set_cons_zero, List.set_cons_succ]
  refine wpAnyH_take (i := 5) (oi := _) (v := ?_) rfl (by kernel_rfl) (by kernel_rfl) (by kernel_rfl) (fun _ _ _ h => h) (Or.inl ⟨?_, ?_⟩) hHeld ?_
  rotate_left
  · rfl
  · intro w hSw; (try dsimp only at hSw); first | (go_simp; done) | (go_simp; with_reducible rfl)
  try simp only [Act.put, List.getElem_toArray, List.getElem_cons_succ, List.getElem_cons_zero, List.setIfInBounds_toArray, List.set_cons_zero, List.set_cons_succ]
  refine wpAnyH_take (i := 6) (oi := _) (v := ?_) rfl (by kernel_rfl) (by kernel_rfl) (by kernel_rfl) (fun _ _ _ h => h) (Or.inl ⟨?_, ?_⟩) hHeld ?_
  rotate_left
  · rfl
  · intro w hSw; (try dsimp only at hSw); first | (go_simp; done) | (go_simp; with_reducible rfl)
  try simp only [Act.put, List.getElem_toArray, List.getElem_cons_succ, List.getElem_cons_zero, List.setIfInBounds_toArray, List.set_cons_zero, List.set_cons_succ]
  refine wpAnyH_take (i := 7) (oi := _) (v := ?_) rfl (by kernel_rfl) (by kernel_rfl) (by kernel_rfl) (fun _ _ _ h => h) (Or.inl ⟨?_, ?_⟩) hHeld ?_
  rotate_left
  · rfl
  · intro w hSw; (try dsimp only at hSw); first | (go_simp; done) | (go_simp; with_reducible rfl)
  try simp only [Act.put, List.getElem_toArray, List.getElem_cons_succ, List.getElem_cons_zero, List.setIfInBounds_toArray, List.set_cons_zero, List.set_cons_succ]
  refine wpAnyH_take (i := 8) (oi := _) (v := ?_) rfl (by kernel_rfl) (by kernel_rfl) (by kernel_rfl) (fun _ _ _ h => h) (Or.inl ⟨?_, ?_⟩) hHeld ?_
  rotate_left
  · rfl
  · intro w hSw; (try dsimp only at hSw); first | (go_simp; done) | (go_simp; with_reducible rfl)
  try simp only [Act.put, List.getElem_toArray, List.getElem_cons_succ, List.getElem_cons_zero, List.setIfInBounds_toArray, List.set_cons_zero, List.set_cons_succ]
  refine wpAnyH_take (i := 9) (oi := _) (v := ?_) rfl (by kernel_rfl) (by kernel_rfl) (by kernel_rfl) (fun _ _ _ h => h) (Or.inl ⟨?_, ?_⟩) hHeld ?_
  rotate_left
  · rfl
  · intro w hSw; (try dsimp only at hSw); first | (go_simp; done) | (go_simp; with_reducible rfl)
  try simp only [Act.put, List.getElem_toArray, List.getElem_cons_succ, List.getElem_cons_zero, List.setIfInBounds_toArray, List.set_cons_zero, List.set_cons_succ]
  refine wpAnyH_take (i := 10) (oi := _) (v := ?_) rfl (by kernel_rfl) (by kernel_rfl) (by kernel_rfl) (fun _ _ _ h => h) (Or.inl ⟨?_, ?_⟩) hHeld ?_
  rotate_left
  · rfl
  · intro w hSw; (try dsimp only at hSw); first | (go_simp; done) | (go_simp; with_reducible rfl)
  try simp only [Act.put, List.getElem_toArray, List.getElem_cons_succ, List.getElem_cons_zero, List.setIfInBounds_toArray, List.set_cons_zero, List.set_cons_succ]
  refine wpAnyH_take (i := 11) (oi := _) (v := ?_) rfl (by kernel_rfl) (by kernel_rfl) (by kernel_rfl) (fun _ _ _ h => h) (Or.inl ⟨?_, ?_⟩) hHeld ?_
  rotate_left
  · rfl
  · intro w hSw; (try dsimp only at hSw); first | (go_simp; done) | (go_simp; with_reducible rfl)
  try simp only [Act.put, List.getElem_toArray, List.getElem_cons_succ, List.getElem_cons_zero, List.setIfInBounds_toArray, List.set_cons_zero, List.set_cons_succ]
  refine wpAnyH_take (i := 13) (oi := _) (v := ?_) rfl (by kernel_rfl) (by kernel_rfl) (by kernel_rfl) (fun _ _ _ h => h) (Or.inl ⟨?_, ?_⟩) hHeld ?_
  rotate_left
  · rfl
  · intro w hSw; (try dsimp only at hSw); first | (go_simp; done) | (go_simp; with_reducible rfl)
  try simp only [Act.put, List.getElem_toArray, List.getElem_cons_succ, List.getElem_cons_zero, List.setIfInBounds_toArray, List.set_cons_zero, List.set_cons_succ]
  refine wpAnyH_ready (rs := [12]) (by kernel_rfl) (by simp) ?_
  refine AllReadyH.cons (o := _) rfl (fun K hK => ?_) AllReadyH.nil
  go_simp
  go_at_call 12
  refine (quality_any _ q0 told ⟨hq1, hq2⟩).mono ?_
  rintro e w' ⟨rfl, rfl⟩
  go_wp2_with fail
  refine hK.out _ _ hHeld (fun hHeld2 => ?_)
  clear hK K hHeld
  have hHeld := hHeld2
  clear hHeld2
  try simp only [Act.put, List.getElem_toArray, List.getElem_cons_succ, List.getElem_cons_zero, List.setIfInBounds_toArray, List.set_cons_zero, List.set_cons_succ]
  refine wpAnyH_ready (rs := [14]) (by kernel_rfl) (by simp) ?_
  refine AllReadyH.cons (o := _) rfl (fun K hK => ?_) AllReadyH.nil
  go_simp
  go_at_call 11
  refine (HR.out.ec _ (HB4.out.trans (hHeld.2.mono HB4.out.size))).mono ?_
  rintro e w5 ⟨g5, c5, rfl, hrow5, hb5⟩
  have hcv5 := conv_row hrow5
  go_wp2_with fail
  refine hK.out _ _ (HS.out _ (hHeld.2.trans (hb5.mono hHeld.2.size))) (fun hHeld2 => ?_)
  clear hK K hHeld
  have hHeld := hHeld2
  clear hHeld2
  try simp only [Act.put, List.getElem_toArray, List.getElem_cons_succ, List.getElem_cons_zero, List.setIfInBounds_toArray, List.set_cons_zero, List.set_cons_succ]
  refine wpAnyH_ready (rs := [15]) (by kernel_rfl) (by simp) ?_
  refine AllReadyH.cons (o := _) rfl (fun K hK => ?_) AllReadyH.nil
  go_simp
  refine hK.out _ _ hHeld (fun hHeld2 => ?_)
  clear hK K hHeld
  have hHeld := hHeld2
  clear hHeld2
  try simp only [Act.put, List.getElem_toArray, List.getElem_cons_succ, List.getElem_cons_zero, List.setIfInBounds_toArray, List.set_cons_zero, List.set_cons_succ]
  refine wpAnyH_ready (rs := [16]) (by kernel_rfl) (by simp) ?_
  refine AllReadyH.cons (o := _) rfl (fun K hK => ?_) AllReadyH.nil
  go_simp
  refine hK.out _ _ hHeld (fun hHeld2 => ?_)
  clear hK K hHeld
  have hHeld := hHeld2
  clear hHeld2
  try simp only [Act.put, List.getElem_toArray, List.getElem_cons_succ, List.getElem_cons_zero, List.setIfInBounds_toArray, List.set_cons_zero, List.set_cons_succ]
  refine wpAnyH_ready (rs := [17]) (by kernel_rfl) (by simp) ?_
  refine AllReadyH.cons (o := _) rfl (fun K hK => ?_) AllReadyH.nil
  go_simp
  refine hK.out _ _ hHeld (fun hHeld2 => ?_)
  clear hK K hHeld
  have hHeld := hHeld2
  clear hHeld2
  try simp only [Act.put, List.getElem_toArray, List.getElem_cons_succ, List.getElem_cons_zero, List.setIfInBounds_toArray, List.set_cons_zero, List.set_cons_succ]
  refine wpAnyH_ready (rs := [18]) (by kernel_rfl) (by simp) ?_
  refine AllReadyH.cons (o := _) rfl (fun K hK => ?_) AllReadyH.nil
  go_simp
  refine hK.out _ _ hHeld (fun hHeld2 => ?_)
  clear hK K hHeld
  have hHeld := hHeld2
  clear hHeld2
  try simp only [Act.put, List.getElem_toArray, List.getElem_cons_succ, List.getElem_cons_zero, List.setIfInBounds_toArray, List.set_cons_zero, List.set_cons_succ]
  refine wpAnyH_done (by kernel_rfl) ?_ _
  refine NoPanic.normal ?_
  have hlow := HR.out.bw.trans ((HB4.out.trans (hHeld.2.mono HB4.out.size)).mono HR.out.bw.size)
  go_wp2_with fail
  go_ret
  exact ⟨rfl, hlow⟩
end Go.Proofs.YtlibflbpajeeeaaDoor

namespace Go.Proofs.YtlibflbpajeeeaaDoor
open Go.RowKit

set_option maxRecDepth 100000 in
set_option maxHeartbeats 4000000 in
theorem law_ycc (w : World) (ad : Option Addr) (len cap : Nat) (kind q0 : Int) (told : Bool) (hl : len ≤ 100) (hnum : NumsAt w ad len) (hL : Laid w) (hk : 0 ≤ kind ∧ kind ≤ 255) (hk0 : kind % 3 = 1) (hq : -32768 ≤ q0 ∧ q0 ≤ 32767) :
    Calls Tryd.prog 3 #[.slice ad len cap, .int .u8 kind, .int .i16 q0, .bool told] w fun e w' => e = .returned (.bool true) ∧ Below w.heap.size w w' := by
  have hl' : (len : Int) ≤ 100 := by omega
  have hkr : kind.tmod 3 = 1 := by rw [Int.tmod_eq_emod_of_nonneg hk.1]; exact hk0
  obtain ⟨hq1, hq2⟩ := hq
  have HNUM := Lib.hid hnum
  have HL := Lib.hid hL
  clear hnum hL hk hk0
  go_enter Tryd.func3, Tryd.ntmps3
  go_wp2_with fail
  refine (below_any 40 (by omega) (by omega) _ w.heap.size ad len cap 0 (mix_new hl HNUM.out) (by omega)).mono ?_
  rintro e w1 ⟨v1, hv10, hv11, rfl, hm1, ho1⟩
  obtain ⟨wd, hwd⟩ : ∃ wd : Nat, (wd : Int) = 1 + v1 := ⟨(1 + v1).toNat, by omega⟩
  have hw1 : IntKind.i64.wrap (1 + v1) = (wd : Int) := by rw [hwd]; exact IntWalk.i64_in _ (by omega)
  have HM1 := Lib.hid hm1
  have HO1 := Lib.hid ho1
  have HWD := Lib.hid hwd
  clear hm1 ho1 hwd
  go_wp2_with fail
  refine (below_any 40 (by omega) (by omega) _ w.heap.size ad len cap (0 + 1) HM1.out (by omega)).mono ?_
  rintro e w2 ⟨v2, hv20, hv21, rfl, hm2, ho2⟩
  obtain ⟨ht, hht⟩ : ∃ ht : Nat, (ht : Int) = 1 + v2 := ⟨(1 + v2).toNat, by omega⟩
  have hw2 : IntKind.i64.wrap (1 + v2) = (ht : Int) := by rw [hht]; exact IntWalk.i64_in _ (by omega)
  have hdim : 1 ≤ wd ∧ wd ≤ 40 ∧ 1 ≤ ht ∧ ht ≤ 40 := by
    have := HWD.out
    omega
  obtain ⟨n, hn⟩ : ∃ n, n = wd * ht := ⟨_, rfl⟩
  have hn0 : 0 < n := by rw [hn]; exact Nat.mul_pos hdim.1 hdim.2.2.1
  have hn1 : n ≤ 1600 := by rw [hn]; exact Nat.le_trans (Nat.mul_le_mul hdim.2.1 hdim.2.2.2) (by omega)
  have hni : (wd : Int) * (ht : Int) = (n : Int) := by rw [hn]; norm_cast
  have hwh : IntKind.i64.wrap ((wd : Int) * (ht : Int)) = (n : Int) := by rw [hni]; exact IntWalk.i64_in _ (by omega)
  have hmid := Mid.start (k := 2) (wd := wd) (ht := ht) (rt := 0) HO1.out ho2
  have HMID := Lib.hid hmid
  have hz2 : w2.heap.size = w.heap.size + 1 := hmid.wz
  have hmx := hm2.kept (Below.alloc (Below.alloc (Below.refl w2.heap.size w2) (Nat.le_refl _) (.cells #[.int .i64 wd] 3)) (by simp) (.cells #[.int .i64 2, .int .i64 wd, .int .i64 ht, .int .i64 0, .slice none 0 0] 30)) (by omega)
  have HMX := Lib.hid hmx
  have HN := Lib.hid hn
  have HNI := Lib.hid hni
  have HDIM := Lib.hid hdim
  have HZ2 := Lib.hid hz2
  clear hm2 ho2 hht hmid hmx hn hdim hz2 hni HNUM HM1 HO1
  go_upto_region 20 with fail
  generalize (w2.alloc (.cells #[.int .i64 wd] 3)).alloc (.cells #[.int .i64 2, .int .i64 wd, .int .i64 ht, .int .i64 0, .slice none 0 0] 30) = u0 at HMID HMX ⊢
  have HMIDa := Lib.hid (HMID.out.apart (Below_apart (Below.drew (Below.refl u0.heap.size u0)) w.heap.size))
  have HMXa := Lib.hid (HMX.out.kept (Below.drew (Below.refl u0.heap.size u0)) (by have := HMID.out.sz; have := HMID.out.wz; omega))
  refine wp_region_noPanic ?_
  refine wp_region_held_drew (S := fun w' => w'.cell? ⟨w2.heap.size, 0, none⟩ = some (.int .i64 wd)) (by kernel_rfl) HMIDa.out.wc (fun hHeld => ?_)
  refine wpAnyH_take (i := 0) (oi := _) (v := ?_) rfl (by kernel_rfl) (by kernel_rfl) (by kernel_rfl) (fun _ _ _ h => h) (Or.inl ⟨?_, ?_⟩) hHeld ?_
  rotate_left
  · rfl
  · intro w hSw; (try dsimp only at hSw); first | (go_simp; done) | (go_simp; with_reducible rfl)
  try simp only [Act.put, List.getElem_toArray, List.getElem_cons_zero, List.setIfInBounds_toArray, List.set_cons_zero, List.set_cons_succ]
  refine wpAnyH_take (i := 1) (oi := _) (v := ?_) rfl (by kernel_rfl) (by kernel_rfl) (by kernel_rfl) (fun _ _ _ h => h) (Or.inl ⟨?_, ?_⟩) hHeld ?_
  rotate_left
  · rfl
  · intro w hSw; (try dsimp only at hSw); first | (go_simp; done) | (go_simp; with_reducible rfl)
  try simp only [Act.put, List.getElem_toArray, List.getElem_cons_succ, List.getElem_cons_zero, List.setIfInBounds_toArray, List.set_cons_zero, List.set_cons_succ]
  refine wpAnyH_take (i := 2) (oi := _) (v := ?_) rfl (by kernel_rfl) (by kernel_rfl) (by kernel_rfl) (fun _ _ _ h => h) (Or.inl ⟨?_, ?_⟩) hHeld ?_
  rotate_left
  · rfl
  · intro w hSw; (try dsimp only at hSw); first | (go_simp; done) | (go_simp; with_reducible rfl)
  try simp only [Act.put, List.getElem_toArray, List.getElem_cons_succ, List.getElem_cons_zero, List.setIfInBounds_toArray, List.set_cons_zero, List.set_cons_succ]
  refine wpAnyH_take (i := 3) (oi := _) (v := ?_) rfl (by kernel_rfl) (by kernel_rfl) (by kernel_rfl) (fun _ _ _ h => h) (Or.inl ⟨?_, ?_⟩) hHeld ?_
  rotate_left
  · rfl
  · intro w hSw; (try dsimp only at hSw); first | (go_simp; done) | (go_simp; with_reducible rfl)
  try simp only [Act.put, List.getElem_toArray, List.getElem_cons_succ, List.getElem_cons_zero, List.setIfInBounds_toArray, List.set_cons_zero, List.set_cons_succ]
  refine wpAnyH_take (i := 5) (oi := _) (v := ?_) rfl (by kernel_rfl) (by kernel_rfl) (by kernel_rfl) (fun _ _ _ h => h) (Or.inl ⟨?_, ?_⟩) hHeld ?_
  rotate_left
  · rfl
  · intro w hSw; (try dsimp only at hSw); first | (go_simp; done) | (go_simp; with_reducible rfl)
  try simp only [Act.put, List.getElem_toArray, List.getElem_cons_succ, List.getElem_cons_zero, List.setIfInBounds_toArray, List.set_cons_zero, List.set_cons_succ]
  refine wpAnyH_take (i := 6) (oi := _) (v := ?_) rfl (by kernel_rfl) (by kernel_rfl) (by kernel_rfl) (fun _ _ _ h => h) (Or.inl ⟨?_, ?_⟩) hHeld ?_
  rotate_left
  · rfl
  · intro w hSw; (try dsimp only at hSw); first | (go_simp; done) | (go_simp; with_reducible rfl)
  try simp only [Act.put, List.getElem_toArray, List.getElem_cons_succ, List.getElem_cons_zero, List.setIfInBounds_toArray, List.set_cons_zero, List.set_cons_succ]
  refine wpAnyH_take (i := 7) (oi := _) (v := ?_) rfl (by kernel_rfl) (by kernel_rfl) (by kernel_rfl) (fun _ _ _ h => h) (Or.inl ⟨?_, ?_⟩) hHeld ?_
  rotate_left
  · rfl
  · intro w hSw; (try dsimp only at hSw); first | (go_simp; done) | (go_simp; with_reducible rfl)
  try simp only [Act.put, List.getElem_toArray, List.getElem_cons_succ, List.getElem_cons_zero, List.setIfInBounds_toArray, List.set_cons_zero, List.set_cons_succ]
  refine wpAnyH_take (i := 8) (oi := _) (v := ?_) rfl (by kernel_rfl) (by kernel_rfl) (by kernel_rfl) (fun _ _ _ h => h) (Or.inl ⟨?_, ?_⟩) hHeld ?_
  rotate_left
  · rfl
  · intro w hSw; (try dsimp only at hSw); first | (go_simp; done) | (go_simp; with_reducible rfl)
  try simp only [Act.put, List.getElem_toArray, List.getElem_cons_succ, List.getElem_cons_zero, List.setIfInBounds_toArray, List.set_cons_zero, List.set_cons_succ]
  refine wpAnyH_take (i := 10) (oi := _) (v := ?_) rfl (by kernel_rfl) (by kernel_rfl) (by kernel_rfl) (fun _ _ _ h => h) (Or.inl ⟨?_, ?_⟩) hHeld ?_
  rotate_left
  · rfl
  · intro w hSw; (try dsimp only at hSw); first | (go_simp; done) | (go_simp; with_reducible rfl)
  try simp only [Act.put, List.getElem_toArray, List.getElem_cons_succ, List.getElem_cons_zero, List.setIfInBounds_toArray, List.set_cons_zero, List.set_cons_succ]
  refine wpAnyH_take (i := 11) (oi := _) (v := ?_) rfl (by kernel_rfl) (by kernel_rfl) (by kernel_rfl) (fun _ _ _ h => h) (Or.inl ⟨?_, ?_⟩) hHeld ?_
  rotate_left
  · rfl
  · intro w hSw; (try dsimp only at hSw); first | (go_simp; done) | (go_simp; with_reducible rfl)
  try simp only [Act.put, List.getElem_toArray, List.getElem_cons_succ, List.getElem_cons_zero, List.setIfInBounds_toArray, List.set_cons_zero, List.set_cons_succ]
  refine wpAnyH_take (i := 12) (oi := _) (v := ?_) rfl (by kernel_rfl) (by kernel_rfl) (by kernel_rfl) (fun _ _ _ h => h) (Or.inl ⟨?_, ?_⟩) hHeld ?_
  rotate_left
  · rfl
  · intro w hSw; (try dsimp only at hSw); first | (go_simp; done) | (go_simp; with_reducible rfl)
  try simp only [Act.put, List.getElem_toArray, List.getElem_cons_succ, List.getElem_cons_zero, List.setIfInBounds_toArray, List.set_cons_zero, List.set_cons_succ]
  refine wpAnyH_take (i := 13) (oi := _) (v := ?_) rfl (by kernel_rfl) (by kernel_rfl) (by kernel_rfl) (fun _ _ _ h => h) (Or.inl ⟨?_, ?_⟩) hHeld ?_
  rotate_left
  · rfl
  · intro w hSw; (try dsimp only at hSw); first | (go_simp; done) | (go_simp; with_reducible rfl)
  try simp only [Act.put, List.getElem_toArray, List.getElem_cons_succ, List.getElem_cons_zero, List.setIfInBounds_toArray, List.set_cons_zero, List.set_cons_succ]
  refine wpAnyH_ready (rs := [4]) (by kernel_rfl) (by simp) ?_
  refine AllReadyH.cons (o := _) rfl (fun K hK => ?_) AllReadyH.nil
  go_simp
  go_at_call 6
  refine (pixels_any n (by omega) _ w.heap.size ad len cap _ (by have := HMIDa.out.sz; have := HMIDa.out.wz; omega) HMXa.out (by omega)).mono ?_
  rintro e w3 ⟨vw3, L0, p0, rfl, hLn0, hbd0, hown0, hmx0, ⟨hp00, hp01⟩, hap0⟩
  obtain ⟨g0, c0, rfl, hg0, hrow0⟩ := pix_row hn0 hLn0 hown0
  have HMIDb := Lib.hid (HMIDa.out.apart hap0)
  have HMXb := Lib.hid hmx0
  have HG0 := Lib.hid (show w2.heap.size + 2 ≤ g0 from Nat.le_trans HMIDa.out.sz hg0)
  have HROW0 := Lib.hid hrow0
  have HBD0 := Lib.hid hbd0
  have HLN0 := Lib.hid hLn0
  clear hLn0 hbd0 hown0 hmx0 hap0 hg0 hrow0
  go_wp2_with fail
  refine hK.out _ _ HMIDb.out.wc (fun hHeld2 => ?_)
  clear hK K hHeld
  have hHeld := hHeld2
  clear hHeld2
  try simp only [Act.put, List.getElem_toArray, List.getElem_cons_succ, List.getElem_cons_zero, List.setIfInBounds_toArray, List.set_cons_zero, List.set_cons_succ]
  refine wpAnyH_ready (rs := [9]) (by kernel_rfl) (by simp) ?_
  refine AllReadyH.cons (o := _) rfl (fun K hK => ?_) AllReadyH.nil
  go_simp
  go_at_call 6
  refine (pixels_any n (by omega) _ w.heap.size ad len cap _ (by have := HMIDb.out.sz; have := HMIDb.out.wz; omega) HMXb.out (by omega)).mono ?_
  rintro e w4 ⟨vw4, L1, p1, rfl, hLn1, hbd1, hown1, hmx1, ⟨hp10, hp11⟩, hap1⟩
  obtain ⟨g1, c1, rfl, hg1, hrow1⟩ := pix_row hn0 hLn1 hown1
  have HMIDc := Lib.hid (HMIDb.out.apart hap1)
  have HMXc := Lib.hid hmx1
  have HG1 := Lib.hid (show w2.heap.size + 2 ≤ g1 from Nat.le_trans HMIDb.out.sz hg1)
  have HROW1 := Lib.hid hrow1
  have HBD1 := Lib.hid hbd1
  have HLN1 := Lib.hid hLn1
  have HROW0c := Lib.hid (row_apart HROW0.out hap1 (by have := HG0.out; have := HZ2.out; omega))
  clear hLn1 hbd1 hown1 hmx1 hap1 hg1 hrow1
  go_wp2_with fail
  refine hK.out _ _ HMIDc.out.wc (fun hHeld2 => ?_)
  clear hK K hHeld
  have hHeld := hHeld2
  clear hHeld2
  try simp only [Act.put, List.getElem_toArray, List.getElem_cons_succ, List.getElem_cons_zero, List.setIfInBounds_toArray, List.set_cons_zero, List.set_cons_succ]
  refine wpAnyH_ready (rs := [14]) (by kernel_rfl) (by simp) ?_
  refine AllReadyH.cons (o := _) rfl (fun K hK => ?_) AllReadyH.nil
  go_simp
  go_at_call 6
  refine (pixels_any n (by omega) _ w.heap.size ad len cap _ (by have := HMIDc.out.sz; have := HMIDc.out.wz; omega) HMXc.out (by omega)).mono ?_
  rintro e w5 ⟨vw5, L2, p2, rfl, hLn2, hbd2, hown2, hmx2, ⟨hp20, hp21⟩, hap2⟩
  obtain ⟨g2, c2, rfl, hg2, hrow2⟩ := pix_row hn0 hLn2 hown2
  have HMIDd := Lib.hid (HMIDc.out.apart hap2)
  have HMXd := Lib.hid hmx2
  have HG2 := Lib.hid (show w2.heap.size + 2 ≤ g2 from Nat.le_trans HMIDc.out.sz hg2)
  have HROW2 := Lib.hid hrow2
  have HBD2 := Lib.hid hbd2
  have HLN2 := Lib.hid hLn2
  have HROW0d := Lib.hid (row_apart HROW0c.out hap2 (by have := HG0.out; have := HZ2.out; omega))
  have HROW1d := Lib.hid (row_apart HROW1.out hap2 (by have := HG1.out; have := HZ2.out; omega))
  clear hLn2 hbd2 hown2 hmx2 hap2 hg2 hrow2
  go_wp2_with fail
  refine hK.out _ _ HMIDd.out.wc (fun hHeld2 => ?_)
  clear hK K hHeld
  have hHeld := hHeld2
  clear hHeld2
  try simp only [Act.put, List.getElem_toArray, List.getElem_cons_succ, List.getElem_cons_zero, List.setIfInBounds_toArray, List.set_cons_zero, List.set_cons_succ]
  have hPc : w5.cell? ⟨w2.heap.size + 1, 4, none⟩ = some (.slice none 0 0) := by rw [cell_of_row _ _ _ _ _ _ HMIDd.out.pc]; rfl
  have hPf : w5.frozen? ⟨w2.heap.size + 1, 4, none⟩ = false := frozen_of_row _ _ _ _ _ HMIDd.out.pc
  have hzP : w2.heap.size + 1 < w5.heap.size := HMIDd.out.sz
  refine wpAnyH_ready (rs := [15]) (by kernel_rfl) (by simp) ?_
  refine AllReadyH.cons (o := _) rfl (fun K hK => ?_) AllReadyH.nil
  go_simp
  refine hK.out _ _ (past1 hHeld _) (fun hHeld2 => ?_)
  clear hK K hHeld
  have hHeld := hHeld2
  clear hHeld2
  try simp only [Act.put, List.getElem_toArray, List.getElem_cons_succ, List.getElem_cons_zero, List.setIfInBounds_toArray, List.set_cons_zero, List.set_cons_succ]
  refine wpAnyH_take (i := 16) (oi := _) (v := ?_) rfl (by kernel_rfl) (by kernel_rfl) (by kernel_rfl) (fun _ _ _ h => h) (Or.inl ⟨?_, ?_⟩) hHeld ?_
  rotate_left
  · rfl
  · intro w hSw; (try dsimp only at hSw); first | (go_simp; done) | (go_simp; with_reducible rfl)
  try simp only [Act.put, List.getElem_toArray, List.getElem_cons_succ, List.getElem_cons_zero, List.setIfInBounds_toArray, List.set_cons_zero, List.set_cons_succ]
  have hst := HMIDd.out.stored 3 #[.slice (some ⟨g0, 0, none⟩) n c0, .slice (some ⟨g1, 0, none⟩) n c1, .slice (some ⟨g2, 0, none⟩) n c2]
  have HST := Lib.hid hst
  clear hst
  refine wpAnyH_ready (rs := [17]) (by kernel_rfl) (by simp) ?_
  refine AllReadyH.cons (o := _) rfl (fun K hK => ?_) AllReadyH.nil
  go_simp
  refine hK.out _ _ HST.out.wc (fun hHeld2 => ?_)
  clear hK K hHeld
  have hHeld := hHeld2
  clear hHeld2
  try simp only [Act.put, List.getElem_toArray, List.getElem_cons_succ, List.getElem_cons_zero, List.setIfInBounds_toArray, List.set_cons_zero, List.set_cons_succ]
  refine wpAnyH_done (by kernel_rfl) ?_ _
  refine NoPanic.normal ?_
  have hd100 : 1 ≤ wd ∧ wd ≤ 100 ∧ 1 ≤ ht ∧ ht ≤ 100 := by have := HDIM.out; omega
  have hru0 := HST.out.row HROW0d.out HG0.out
  have hru1 := HST.out.row HROW1d.out HG1.out
  have hru2 := HST.out.row HROW2.out HG2.out
  have hR := ready_ycc (q0 := q0) (told := told) HST.out.bw (HL.out.below HST.out.bw) hd100 ⟨hq1, hq2⟩ HST.out.pc HST.out.wc (by rw [cell_of_row _ _ _ _ _ _ HST.out.pl, ← HN.out]; rfl) (by rw [cell_of_row _ _ _ _ _ _ HST.out.pl, ← HN.out]; rfl) (by rw [cell_of_row _ _ _ _ _ _ HST.out.pl, ← HN.out]; rfl) (by rw [← HN.out]; exact hru0) (by rw [← HN.out]; exact hru1) (by rw [← HN.out]; exact hru2) (by rw [← HN.out]; exact ⟨HLN0.out, HLN1.out, HLN2.out⟩) HBD0.out HBD1.out HBD2.out
  obtain ⟨F, pv, HR⟩ : ∃ F pv, Hid (Ready w ((w5.setCell ⟨w2.heap.size + 1, 4, none⟩ (.slice (some ⟨w5.heap.size, 0, none⟩) 3 3)).alloc (.cells #[.slice (some ⟨g0, 0, none⟩) n c0, .slice (some ⟨g1, 0, none⟩) n c1, .slice (some ⟨g2, 0, none⟩) n c2] 32)) (w2.heap.size + 1) w2.heap.size wd ht 2 pv (.func (.func 7) #[] #[.pointer (some ⟨w2.heap.size + 1, 0, none⟩), .pointer (some ⟨w2.heap.size, 0, none⟩)]) q0 told F) := ⟨_, _, Lib.hid hR⟩
  clear hd100 hru0 hru1 hru2 hR hPc hPf hHeld
  clear HST HROW0d HROW1d HROW0c HROW0 HROW1 HROW2 HBD0 HBD1 HBD2 HLN0 HLN1 HLN2 HMXa HMXb HMXc HMXd HMIDa HMIDb HMIDc HMIDd
  go_upto_region 22 with fail
  generalize (w5.setCell ⟨w2.heap.size + 1, 4, none⟩ (.slice (some ⟨w5.heap.size, 0, none⟩) 3 3)).alloc (.cells #[.slice (some ⟨g0, 0, none⟩) n c0, .slice (some ⟨g1, 0, none⟩) n c1, .slice (some ⟨g2, 0, none⟩) n c2] 32) = u at HR ⊢
  clear HMX HMID HN
  go_wp2_with ((with_reducible show wpList _ _ _ (⟨some 96, .load 30 (.tmp 12), _, _, _, _⟩ :: _) _ _); go_must (refine wpList_load_row rfl 30 (.tmp 12) rfl (w2.heap.size + 1) rfl 30 pv (0, 0) _ HR.out.pc Tryd.underlying30 rfl HR.out.pz ?_))
  refine (HR.out.im _ (Below.refl _ _)).mono ?_
  rintro e w4 ⟨v, rfl, hrow, hb4, -⟩
  obtain ⟨g4, c4, rfl⟩ : ∃ g4 c4, v = .slice (some ⟨g4, 0, none⟩) F.length c4 := by
    rcases hrow.form with ⟨_, h⟩ | ⟨g4, c4, h, _⟩
    · exact absurd (List.map_eq_nil_iff.1 h) HR.out.ne
    · exact ⟨g4, c4, by rw [h, List.length_map]⟩
  have HROW := Lib.hid hrow
  have HB4 := Lib.hid hb4
  clear hrow hb4
  have hcW : w4.cell? ⟨w2.heap.size, 0, none⟩ = some (.int .i64 wd) := cellBelow HR.out.wc HB4.out
  have hcP : w4.cell? ⟨w2.heap.size + 1, 0, none⟩ = some (.int .i64 2) := cellBelow (by rw [cell_of_row _ _ _ _ _ _ HR.out.pc]; exact HR.out.k0) HB4.out
  have hS : ∀ w', Below w4.heap.size w4 w' → (w'.cell? ⟨w2.heap.size, 0, none⟩ = some (.int .i64 wd) ∧ w'.cell? ⟨w2.heap.size + 1, 0, none⟩ = some (.int .i64 2)) ∧ Below w4.heap.size w4 w' := fun w' h => ⟨⟨cellBelow hcW h, cellBelow hcP h⟩, h⟩
  have HS := Lib.hid hS
  clear hS hcW hcP
  go_upto_region 23 with fail
  refine wp_region_noPanic ?_
  refine wp_region_held_drew (S := fun w' => (w'.cell? ⟨w2.heap.size, 0, none⟩ = some (.int .i64 wd) ∧ w'.cell? ⟨w2.heap.size + 1, 0, none⟩ = some (.int .i64 2)) ∧ Below w4.heap.size w4 w') (by kernel_rfl) (HS.out _ (Below.drew (Below.refl _ _))) (fun hHeld => ?_)
  refine wpAnyH_take (i := 0) (oi := _) (v := ?_) rfl (by kernel_rfl) (by kernel_rfl) (by kernel_rfl) (fun _ _ _ h => h) (Or.inl ⟨?_, ?_⟩) hHeld ?_
  rotate_left
  · rfl
  · intro w hSw; (try dsimp only at hSw); first | (go_simp; done) | (go_simp; with_reducible rfl)
  try simp only [Act.put, List.getElem_toArray, List.getElem_cons_zero, List.setIfInBounds_toArray, List.set_cons_zero, List.set_cons_succ]
  refine wpAnyH_take (i := 1) (oi := _) (v := ?_) rfl (by kernel_rfl) (by kernel_rfl) (by kernel_rfl) (fun _ _ _ h => h) (Or.inl ⟨?_, ?_⟩) hHeld ?_
  rotate_left
  · rfl
  · intro w hSw; (try dsimp only at hSw); first | (go_simp; done) | (go_simp; with_reducible rfl)
  try simp only [Act.put, List.getElem_toArray, List.getElem_cons_succ, List.getElem_cons_zero, List.setIfInBounds_toArray, List.set_cons_zero, List.set_cons_succ]
  refine wpAnyH_take (i := 2) (oi := _) (v := ?_) rfl (by kernel_rfl) (by kernel_rfl) (by kernel_rfl) (fun _ _ _ h => h) (Or.inl ⟨?_, ?_⟩) hHeld ?_
  rotate_left
  · rfl
  · intro w hSw; (try dsimp only at hSw); first | (go_simp; done) | (go_simp; with_reducible rfl)
  try simp only [Act.put, List.getElem_toArray, List.getElem_cons_succ, List.getElem_cons_zero, List.setIfInBounds_toArray, List.set_cons_zero, List.set_cons_succ]
  refine wpAnyH_take (i := 3) (oi := _) (v := ?_) rfl (by kernel_rfl) (by kernel_rfl) (by kernel_rfl) (fun _ _ _ h => h) (Or.inl ⟨?_, ?_⟩) hHeld ?_
  rotate_left
  · rfl
  · intro w hSw; (try dsimp only at hSw); first | (go_simp; done) | (go_simp; with_reducible rfl)
  try simp only [Act.put, List.getElem_toArray, List.getElem_cons_succ, List.getElem_cons_zero, List.setIfInBounds_toArray, List.set_cons_zero, List.set_cons_succ]
  refine wpAnyH_take (i := 4) (oi := _) (v := ?_) rfl (by kernel_rfl) (by kernel_rfl) (by kernel_rfl) (fun _ _ _ h => h) (Or.inl ⟨?_, ?_⟩) hHeld ?_
  rotate_left
  · rfl
  · intro w hSw; (try dsimp only at hSw); have hcv := conv_row (rowBelow HROW.out hSw.2); first | (go_simp; done) | (go_simp; with_reducible rfl)
  try simp only [Act.put, List.getElem_toArray, List.getElem_cons_succ, List.getElem_cons_zero, List.setIfInBounds_toArray, List.set_cons_zero, List.set_cons_succ]
  refine wpAnyH_take (i := 5) (oi := _) (v := ?_) rfl (by kernel_rfl) (by kernel_rfl) (by kernel_rfl) (fun _ _ _ h => h) (Or.inl ⟨?_, ?_⟩) hHeld ?_
  rotate_left
  · rfl
  · intro w hSw; (try dsimp only at hSw); first | (go_simp; done) | (go_simp; with_reducible rfl)
  try simp only [Act.put, List.getElem_toArray, List.getElem_cons_succ, List.getElem_cons_zero, List.setIfInBounds_toArray, List.set_cons_zero, List.set_cons_succ]
  refine wpAnyH_take (i := 6) (oi := _) (v := ?_) rfl (by kernel_rfl) (by kernel_rfl) (by kernel_rfl) (fun _ _ _ h => h) (Or.inl ⟨?_, ?_⟩) hHeld ?_
  rotate_left
  · rfl
  · intro w hSw; (try dsimp only at hSw); first | (go_simp; done) | (go_simp; with_reducible rfl)
  try simp only [Act.put, List.getElem_toArray, List.getElem_cons_succ, List.getElem_cons_zero, List.setIfInBounds_toArray, List.set_cons_zero, List.set_cons_succ]
  refine wpAnyH_take (i := 7) (oi := _) (v := ?_) rfl (by kernel_rfl) (by kernel_rfl) (by kernel_rfl) (fun _ _ _ h => h) (Or.inl ⟨?_, ?_⟩) hHeld ?_
  rotate_left
  · rfl
  · intro w hSw; (try dsimp only at hSw); first | (go_simp; done) | (go_simp; with_reducible rfl)
  try simp only [Act.put, List.getElem_toArray, List.getElem_cons_succ, List.getElem_cons_zero, List.setIfInBounds_toArray, List.set_cons_zero, List.set_cons_succ]
  refine wpAnyH_take (i := 8) (oi := _) (v := ?_) rfl (by kernel_rfl) (by kernel_rfl) (by kernel_rfl) (fun _ _ _ h => h) (Or.inl ⟨?_, ?_⟩) hHeld ?_
  rotate_left
  · rfl
  · intro w hSw; (try dsimp only at hSw); first | (go_simp; done) | (go_simp; with_reducible rfl)
  try simp only [Act.put, List.getElem_toArray, List.getElem_cons_succ, List.getElem_cons_zero, List.setIfInBounds_toArray, List.set_cons_zero, List.set_cons_succ]
  refine wpAnyH_take (i := 9) (oi := _) (v := ?_) rfl (by kernel_rfl) (by kernel_rfl) (by kernel_rfl) (fun _ _ _ h => h) (Or.inl ⟨?_, ?_⟩) hHeld ?_
  rotate_left
  · rfl
  · intro w hSw; (try dsimp only at hSw); first | (go_simp; done) | (go_simp; with_reducible rfl)
  try simp only [Act.put, List.getElem_toArray, List.getElem_cons_succ, List.getElem_cons_zero, List.setIfInBounds_toArray, List.set_cons_zero, List.set_cons_succ]
  refine wpAnyH_take (i := 10) (oi := _) (v := ?_) rfl (by kernel_rfl) (by kernel_rfl) (by kernel_rfl) (fun _ _ _ h => h) (Or.inl ⟨?_, ?_⟩) hHeld ?_
  rotate_left
  · rfl
  · intro w hSw; (try dsimp only at hSw); first | (go_simp; done) | (go_simp; with_reducible rfl)
  try simp only [Act.put, List.getElem_toArray, List.getElem_cons_succ, List.getElem_cons_zero, List.setIfInBounds_toArray, List.set_cons_zero, List.set_cons_succ]
  refine wpAnyH_take (i := 11) (oi := _) (v := ?_) rfl (by kernel_rfl) (by kernel_rfl) (by kernel_rfl) (fun _ _ _ h => h) (Or.inl ⟨?_, ?_⟩) hHeld ?_
  rotate_left
  · rfl
  · intro w hSw; (try dsimp only at hSw); first | (go_simp; done) | (go_simp; with_reducible rfl)
  try simp only [Act.put, List.getElem_toArray, List.getElem_cons_succ, List.getElem_cons_zero, List.setIfInBounds_toArray, List.set_cons_zero, List.set_cons_succ]
  refine wpAnyH_take (i := 13) (oi := _) (v := ?_) rfl (by kernel_rfl) (by kernel_rfl) (by kernel_rfl) (fun _ _ _ h => h) (Or.inl ⟨?_, ?_⟩) hHeld ?_
  rotate_left
  · rfl
  · intro w hSw; (try dsimp only at hSw); first | (go_simp; done) | (go_simp; with_reducible rfl)
  try simp only [Act.put, List.getElem_toArray, List.getElem_cons_succ, List.getElem_cons_zero, List.setIfInBounds_toArray, List.set_cons_zero, List.set_cons_succ]
  refine wpAnyH_ready (rs := [12]) (by kernel_rfl) (by simp) ?_
  refine AllReadyH.cons (o := _) rfl (fun K hK => ?_) AllReadyH.nil
  go_simp
  go_at_call 12
  refine (quality_any _ q0 told ⟨hq1, hq2⟩).mono ?_
  rintro e w' ⟨rfl, rfl⟩
  go_wp2_with fail
  refine hK.out _ _ hHeld (fun hHeld2 => ?_)
  clear hK K hHeld
  have hHeld := hHeld2
  clear hHeld2
  try simp only [Act.put, List.getElem_toArray, List.getElem_cons_succ, List.getElem_cons_zero, List.setIfInBounds_toArray, List.set_cons_zero, List.set_cons_succ]
  refine wpAnyH_ready (rs := [14]) (by kernel_rfl) (by simp) ?_
  refine AllReadyH.cons (o := _) rfl (fun K hK => ?_) AllReadyH.nil
  go_simp
  go_at_call 11
  refine (HR.out.ec _ (HB4.out.trans (hHeld.2.mono HB4.out.size))).mono ?_
  rintro e w5 ⟨g5, c5, rfl, hrow5, hb5⟩
  have hcv5 := conv_row hrow5
  go_wp2_with fail
  refine hK.out _ _ (HS.out _ (hHeld.2.trans (hb5.mono hHeld.2.size))) (fun hHeld2 => ?_)
  clear hK K hHeld
  have hHeld := hHeld2
  clear hHeld2
  try simp only [Act.put, List.getElem_toArray, List.getElem_cons_succ, List.getElem_cons_zero, List.setIfInBounds_toArray, List.set_cons_zero, List.set_cons_succ]
  refine wpAnyH_ready (rs := [15]) (by kernel_rfl) (by simp) ?_
  refine AllReadyH.cons (o := _) rfl (fun K hK => ?_) AllReadyH.nil
  go_simp
  refine hK.out _ _ hHeld (fun hHeld2 => ?_)
  clear hK K hHeld
  have hHeld := hHeld2
  clear hHeld2
  try simp only [Act.put, List.getElem_toArray, List.getElem_cons_succ, List.getElem_cons_zero, List.setIfInBounds_toArray, List.set_cons_zero, List.set_cons_succ]
  refine wpAnyH_ready (rs := [16]) (by kernel_rfl) (by simp) ?_
  refine AllReadyH.cons (o := _) rfl (fun K hK => ?_) AllReadyH.nil
  go_simp
  refine hK.out _ _ hHeld (fun hHeld2 => ?_)
  clear hK K hHeld
  have hHeld := hHeld2
  clear hHeld2
  try simp only [Act.put, List.getElem_toArray, List.getElem_cons_succ, List.getElem_cons_zero, List.setIfInBounds_toArray, List.set_cons_zero, List.set_cons_succ]
  refine wpAnyH_ready (rs := [17]) (by kernel_rfl) (by simp) ?_
  refine AllReadyH.cons (o := _) rfl (fun K hK => ?_) AllReadyH.nil
  go_simp
  refine hK.out _ _ hHeld (fun hHeld2 => ?_)
  clear hK K hHeld
  have hHeld := hHeld2
  clear hHeld2
  try simp only [Act.put, List.getElem_toArray, List.getElem_cons_succ, List.getElem_cons_zero, List.setIfInBounds_toArray, List.set_cons_zero, List.set_cons_succ]
  refine wpAnyH_ready (rs := [18]) (by kernel_rfl) (by simp) ?_
  refine AllReadyH.cons (o := _) rfl (fun K hK => ?_) AllReadyH.nil
  go_simp
  refine hK.out _ _ hHeld (fun hHeld2 => ?_)
  clear hK K hHeld
  have hHeld := hHeld2
  clear hHeld2
  try simp only [Act.put, List.getElem_toArray, List.getElem_cons_succ, List.getElem_cons_zero, List.setIfInBounds_toArray, List.set_cons_zero, List.set_cons_succ]
  refine wpAnyH_done (by kernel_rfl) ?_ _
  refine NoPanic.normal ?_
  have hlow := HR.out.bw.trans ((HB4.out.trans (hHeld.2.mono HB4.out.size)).mono HR.out.bw.size)
  go_wp2_with fail
  go_ret
  exact ⟨rfl, hlow⟩
end Go.Proofs.YtlibflbpajeeeaaDoor

namespace Go.Proofs.YtlibflbpajeeeaaDoor
open Go.RowKit

set_option maxRecDepth 100000 in
set_option maxHeartbeats 4000000 in
theorem law_rgb (w : World) (ad : Option Addr) (len cap : Nat) (kind q0 : Int) (told : Bool) (hl : len ≤ 100) (hnum : NumsAt w ad len) (hL : Laid w) (hk : 0 ≤ kind ∧ kind ≤ 255) (hk0 : kind % 3 = 2) (hq : -32768 ≤ q0 ∧ q0 ≤ 32767) :
    Calls Tryd.prog 3 #[.slice ad len cap, .int .u8 kind, .int .i16 q0, .bool told] w fun e w' => e = .returned (.bool true) ∧ Below w.heap.size w w' := by
  have hl' : (len : Int) ≤ 100 := by omega
  have hkr : kind.tmod 3 = 2 := by rw [Int.tmod_eq_emod_of_nonneg hk.1]; exact hk0
  obtain ⟨hq1, hq2⟩ := hq
  have HNUM := Lib.hid hnum
  have HL := Lib.hid hL
  clear hnum hL hk hk0
  go_enter Tryd.func3, Tryd.ntmps3
  go_wp2_with fail
  refine (below_any 40 (by omega) (by omega) _ w.heap.size ad len cap 0 (mix_new hl HNUM.out) (by omega)).mono ?_
  rintro e w1 ⟨v1, hv10, hv11, rfl, hm1, ho1⟩
  obtain ⟨wd, hwd⟩ : ∃ wd : Nat, (wd : Int) = 1 + v1 := ⟨(1 + v1).toNat, by omega⟩
  have hw1 : IntKind.i64.wrap (1 + v1) = (wd : Int) := by rw [hwd]; exact IntWalk.i64_in _ (by omega)
  have HM1 := Lib.hid hm1
  have HO1 := Lib.hid ho1
  have HWD := Lib.hid hwd
  clear hm1 ho1 hwd
  go_wp2_with fail
  refine (below_any 40 (by omega) (by omega) _ w.heap.size ad len cap (0 + 1) HM1.out (by omega)).mono ?_
  rintro e w2 ⟨v2, hv20, hv21, rfl, hm2, ho2⟩
  obtain ⟨ht, hht⟩ : ∃ ht : Nat, (ht : Int) = 1 + v2 := ⟨(1 + v2).toNat, by omega⟩
  have hw2 : IntKind.i64.wrap (1 + v2) = (ht : Int) := by rw [hht]; exact IntWalk.i64_in _ (by omega)
  have hdim : 1 ≤ wd ∧ wd ≤ 40 ∧ 1 ≤ ht ∧ ht ≤ 40 := by
    have := HWD.out
    omega
  obtain ⟨n, hn⟩ : ∃ n, n = wd * ht := ⟨_, rfl⟩
  have hn0 : 0 < n := by rw [hn]; exact Nat.mul_pos hdim.1 hdim.2.2.1
  have hn1 : n ≤ 1600 := by rw [hn]; exact Nat.le_trans (Nat.mul_le_mul hdim.2.1 hdim.2.2.2) (by omega)
  have hni : (wd : Int) * (ht : Int) = (n : Int) := by rw [hn]; norm_cast
  have hwh : IntKind.i64.wrap ((wd : Int) * (ht : Int)) = (n : Int) := by rw [hni]; exact IntWalk.i64_in _ (by omega)
  have hmid := Mid.start (k := 3) (wd := wd) (ht := ht) (rt := (-1)) HO1.out ho2
  have HMID := Lib.hid hmid
  have hz2 : w2.heap.size = w.heap.size + 1 := hmid.wz
  have hmx := hm2.kept (Below.alloc (Below.alloc (Below.refl w2.heap.size w2) (Nat.le_refl _) (.cells #[.int .i64 wd] 3)) (by simp) (.cells #[.int .i64 3, .int .i64 wd, .int .i64 ht, .int .i64 (-1), .slice none 0 0] 30)) (by omega)
  have HMX := Lib.hid hmx
  have HN := Lib.hid hn
  have HNI := Lib.hid hni
  have HDIM := Lib.hid hdim
  have HZ2 := Lib.hid hz2
  clear hm2 ho2 hht hmid hmx hn hdim hz2 hni HNUM HM1 HO1
  have hw4 : IntKind.i64.wrap (4 * (wd : Int)) = 4 * (wd : Int) := IntWalk.i64_in _ (by have := HDIM.out; omega)
  have hni4 : 4 * (wd : Int) * (ht : Int) = ((4 * n : Nat) : Int) := by rw [Int.mul_assoc, HNI.out]; omega
  obtain ⟨m, hm⟩ : ∃ m, m = 4 * n := ⟨_, rfl⟩
  rw [← hm] at hni4
  have hwh4 : IntKind.i64.wrap (4 * (wd : Int) * (ht : Int)) = (m : Int) := by rw [hni4]; exact IntWalk.i64_in _ (by omega)
  have HM := Lib.hid hm
  have hm0 : 0 < m := by omega
  have hm1 : m ≤ 6400 := by omega
  clear hm hni4
  go_wp2_with fail
  refine (pixels_any m (by omega) _ w.heap.size ad len cap (0 + 1 + 1) (by have := HZ2.out; simp; omega) HMX.out (by omega)).mono ?_
  rintro e w3 ⟨v, L, p, rfl, hLn, hb, hown, -, -, hap⟩
  obtain ⟨g, c, rfl, hg, hrow⟩ := pix_row hm0 hLn hown
  have hmid3 := HMID.out.apart hap
  have hst := hmid3.stored 1 #[.slice (some ⟨g, 0, none⟩) m c]
  have hgl : g < w3.heap.size := hrow.lt rfl
  have hru := hrow.same (w' := _) (fun k hk => by obtain rfl : g = k := by simpa [Value.ownBlock] using hk
                                                  exact hst.lo g hgl (by simpa using hg))
  have hfill : FillAt w w2 wd ht w3.heap.size g c m L ((w3.setCell ⟨w2.heap.size + 1, 4, none⟩ (.slice (some ⟨w3.heap.size, 0, none⟩) 1 1)).alloc (.cells #[.slice (some ⟨g, 0, none⟩) m c] 32)) :=
    ⟨hst.pc, hst.wc, by rw [cell_of_row _ _ _ _ _ _ hst.pl]; rfl, hru, hLn, hb, hst.bw, by simpa using hg, by omega, by have := HZ2.out; omega⟩
  have HFILL := Lib.hid hfill
  have hPc : w3.cell? ⟨w2.heap.size + 1, 4, none⟩ = some (.slice none 0 0) := by rw [cell_of_row _ _ _ _ _ _ hmid3.pc]; rfl
  have hPf : w3.frozen? ⟨w2.heap.size + 1, 4, none⟩ = false := frozen_of_row _ _ _ _ _ hmid3.pc
  have hzP : w2.heap.size + 1 < w3.heap.size := hmid3.sz
  clear hLn hb hown hap hg hrow hmid3 hst hru hgl hfill
  go_wp2_with fail
  go_loopw [14] (fun i wr => ∃ (x : Nat) (L : List Int), x ≤ 10000 ∧ i = .int .i64 x ∧ FillAt w w2 wd ht w3.heap.size g c m L wr) (fun i _ => m + 4 - (intOf i).toNat)
  case atStart => exact ⟨3, L, by omega, rfl, HFILL.out⟩
  case round =>
  clear HFILL hPc hPf
  obtain ⟨x, L', hx, rfl, hF⟩ := hrel
  obtain ⟨hr1, hr2, hr3⟩ := hF.reads
  have HF := Lib.hid hF
  clear hF
  by_cases hxm : x < m
  · obtain ⟨⟨vx, hcx⟩, hfx, -⟩ := row_set HF.out.row HF.out.len x hxm 255
    go_wp2_with fail
    go_roundw
    case rel => exact ⟨x + 4, L'.set x 255, by omega, by go_num, HF.out.set x hxm⟩
    case measure => simp [intOf]; omega
  have hd100 : 1 ≤ wd ∧ wd ≤ 100 ∧ 1 ≤ ht ∧ ht ≤ 100 := by have := HDIM.out; omega
  have hmn : m = 4 * (wd * ht) := by rw [HM.out, HN.out]
  have hR := ready_rgb (q0 := q0) (told := told) (L := L') (g := g) (c := c) HF.out.bw (HL.out.below HF.out.bw) hd100 ⟨hq1, hq2⟩ HF.out.pc HF.out.wc (by rw [← hmn]; exact HF.out.pk) (by rw [← hmn]; exact HF.out.row) (by rw [← hmn]; exact HF.out.len) HF.out.bd
  obtain ⟨F, pv, HR⟩ : ∃ F pv, Hid (Ready w wr (w2.heap.size + 1) w2.heap.size wd ht 3 pv (.func (.func 8) #[] #[.pointer (some ⟨w2.heap.size, 0, none⟩), .pointer (some ⟨w2.heap.size + 1, 0, none⟩)]) q0 told F) := ⟨_, _, Lib.hid hR⟩
  clear hd100 hmn hR HF HM
  go_upto_region 22 with fail
  obtain ⟨u, hu⟩ : ∃ u, u = wr := ⟨_, rfl⟩
  subst hu
  clear HMX HMID HN
  go_wp2_with ((with_reducible show wpList _ _ _ (⟨some 96, .load 30 (.tmp 12), _, _, _, _⟩ :: _) _ _); go_must (refine wpList_load_row rfl 30 (.tmp 12) rfl (w2.heap.size + 1) rfl 30 pv (0, 0) _ HR.out.pc Tryd.underlying30 rfl HR.out.pz ?_))
  refine (HR.out.im _ (Below.refl _ _)).mono ?_
  rintro e w4 ⟨v, rfl, hrow, hb4, -⟩
  obtain ⟨g4, c4, rfl⟩ : ∃ g4 c4, v = .slice (some ⟨g4, 0, none⟩) F.length c4 := by
    rcases hrow.form with ⟨_, h⟩ | ⟨g4, c4, h, _⟩
    · exact absurd (List.map_eq_nil_iff.1 h) HR.out.ne
    · exact ⟨g4, c4, by rw [h, List.length_map]⟩
  have HROW := Lib.hid hrow
  have HB4 := Lib.hid hb4
  clear hrow hb4
  have hcW : w4.cell? ⟨w2.heap.size, 0, none⟩ = some (.int .i64 wd) := cellBelow HR.out.wc HB4.out
  have hcP : w4.cell? ⟨w2.heap.size + 1, 0, none⟩ = some (.int .i64 3) := cellBelow (by rw [cell_of_row _ _ _ _ _ _ HR.out.pc]; exact HR.out.k0) HB4.out
  have hS : ∀ w', Below w4.heap.size w4 w' → (w'.cell? ⟨w2.heap.size, 0, none⟩ = some (.int .i64 wd) ∧ w'.cell? ⟨w2.heap.size + 1, 0, none⟩ = some (.int .i64 3)) ∧ Below w4.heap.size w4 w' := fun w' h => ⟨⟨cellBelow hcW h, cellBelow hcP h⟩, h⟩
  have HS := Lib.hid hS
  clear hS hcW hcP
  go_upto_region 23 with fail
  refine wp_region_noPanic ?_
  refine wp_region_held_drew (S := fun w' => (w'.cell? ⟨w2.heap.size, 0, none⟩ = some (.int .i64 wd) ∧ w'.cell? ⟨w2.heap.size + 1, 0, none⟩ = some (.int .i64 3)) ∧ Below w4.heap.size w4 w') (by kernel_rfl) (HS.out _ (Below.drew (Below.refl _ _))) (fun hHeld => ?_)
  refine wpAnyH_take (i := 0) (oi := _) (v := ?_) rfl (by kernel_rfl) (by kernel_rfl) (by kernel_rfl) (fun _ _ _ h => h) (Or.inl ⟨?_, ?_⟩) hHeld ?_
  rotate_left
  · rfl
  · intro w hSw; (try dsimp only at hSw); first | (go_simp; done) | (go_simp; with_reducible rfl)
  try simp only [Act.put, List.getElem_toArray, List.getElem_cons_zero, List.setIfInBounds_toArray, List.set_cons_zero, List.set_cons_succ]
  refine wpAnyH_take (i := 1) (oi := _) (v := ?_) rfl (by kernel_rfl) (by kernel_rfl) (by kernel_rfl) (fun _ _ _ h => h) (Or.inl ⟨?_, ?_⟩) hHeld ?_
  rotate_left
  · rfl
  · intro w hSw; (try dsimp only at hSw); first | (go_simp; done) | (go_simp; with_reducible rfl)
  try simp only [Act.put, List.getElem_toArray, List.getElem_cons_succ, List.getElem_cons_zero, List.setIfInBounds_toArray, List.set_cons_zero, List.set_cons_succ]
  refine wpAnyH_take (i := 2) (oi := _) (v := ?_) rfl (by kernel_rfl) (by kernel_rfl) (by kernel_rfl) (fun _ _ _ h => h) (Or.inl ⟨?_, ?_⟩) hHeld ?_
  rotate_left
  · rfl
  · intro w hSw; (try dsimp only at hSw); first | (go_simp; done) | (go_simp; with_reducible rfl)
  try simp only [Act.put, List.getElem_toArray, List.getElem_cons_succ, List.getElem_cons_zero, List.setIfInBounds_toArray, List.set_cons_zero, List.set_cons_succ]
  refine wpAnyH_take (i := 3) (oi := _) (v := ?_) rfl (by kernel_rfl) (by kernel_rfl) (by kernel_rfl) (fun _ _ _ h => h) (Or.inl ⟨?_, ?_⟩) hHeld ?_
  rotate_left
  · rfl
  · intro w hSw; (try dsimp only at hSw); first | (go_simp; done) | (go_simp; with_reducible rfl)
  try simp only [Act.put, List.getElem_toArray, List.getElem_cons_succ, List.getElem_cons_zero, List.setIfInBounds_toArray, List.set_cons_zero, List.set_cons_succ]
  refine wpAnyH_take (i := 4) (oi := _) (v := ?_) rfl (by kernel_rfl) (by kernel_rfl) (by kernel_rfl) (fun _ _ _ h => h) (Or.inl ⟨?_, ?_⟩) hHeld ?_
  rotate_left
  · rfl
  · intro w hSw; (try dsimp only at hSw); have hcv := conv_row (rowBelow HROW.out hSw.2); first | (go_simp; done) | (go_simp; with_reducible rfl)
  try simp only [Act.put, List.getElem_toArray, List.getElem_cons_succ, List.getElem_cons_zero, List.setIfInBounds_toArray, List.set_cons_zero, List.set_cons_succ]
  refine wpAnyH_take (i := 5) (oi := _) (v := ?_) rfl (by kernel_rfl) (by kernel_rfl) (by kernel_rfl) (fun _ _ _ h => h) (Or.inl ⟨?_, ?_⟩) hHeld ?_
  rotate_left
  · rfl
  · intro w hSw; (try dsimp only at hSw); first | (go_simp; done) | (go_simp; with_reducible rfl)
  try simp only [Act.put, List.getElem_toArray, List.getElem_cons_succ, List.getElem_cons_zero, List.setIfInBounds_toArray, List.set_cons_zero, List.set_cons_succ]
  refine wpAnyH_take (i := 6) (oi := _) (v := ?_) rfl (by kernel_rfl) (by kernel_rfl) (by kernel_rfl) (fun _ _ _ h => h) (Or.inl ⟨?_, ?_⟩) hHeld ?_
  rotate_left
  · rfl
  · intro w hSw; (try dsimp only at hSw); first | (go_simp; done) | (go_simp; with_reducible rfl)
  try simp only [Act.put, List.getElem_toArray, List.getElem_cons_succ, List.getElem_cons_zero, List.setIfInBounds_toArray, List.set_cons_zero, List.set_cons_succ]
  refine wpAnyH_take (i := 7) (oi := _) (v := ?_) rfl (by kernel_rfl) (by kernel_rfl) (by kernel_rfl) (fun _ _ _ h => h) (Or.inl ⟨?_, ?_⟩) hHeld ?_
  rotate_left
  · rfl
  · intro w hSw; (try dsimp only at hSw); first | (go_simp; done) | (go_simp; with_reducible rfl)
  try simp only [Act.put, List.getElem_toArray, List.getElem_cons_succ, List.getElem_cons_zero, List.setIfInBounds_toArray, List.set_cons_zero, List.set_cons_succ]
  refine wpAnyH_take (i := 8) (oi := _) (v := ?_) rfl (by kernel_rfl) (by kernel_rfl) (by kernel_rfl) (fun _ _ _ h => h) (Or.inl ⟨?_, ?_⟩) hHeld ?_
  rotate_left
  · rfl
  · intro w hSw; (try dsimp only at hSw); first | (go_simp; done) | (go_simp; with_reducible rfl)
  try simp only [Act.put, List.getElem_toArray, List.getElem_cons_succ, List.getElem_cons_zero, List.setIfInBounds_toArray, List.set_cons_zero, List.set_cons_succ]
  refine wpAnyH_take (i := 9) (oi := _) (v := ?_) rfl (by kernel_rfl) (by kernel_rfl) (by kernel_rfl) (fun _ _ _ h => h) (Or.inl ⟨?_, ?_⟩) hHeld ?_
  rotate_left
  · rfl
  · intro w hSw; (try dsimp only at hSw); first | (go_simp; done) | (go_simp; with_reducible rfl)
  try simp only [Act.put, List.getElem_toArray, List.getElem_cons_succ, List.getElem_cons_zero, List.setIfInBounds_toArray, List.set_cons_zero, List.set_cons_succ]
  refine wpAnyH_take (i := 10) (oi := _) (v := ?_) rfl (by kernel_rfl) (by kernel_rfl) (by kernel_rfl) (fun _ _ _ h => h) (Or.inl ⟨?_, ?_⟩) hHeld ?_
  rotate_left
  · rfl
  · intro w hSw; (try dsimp only at hSw); first | (go_simp; done) | (go_simp; with_reducible rfl)
  try simp only [Act.put, List.getElem_toArray, List.getElem_cons_succ, List.getElem_cons_zero, List.setIfInBounds_toArray, List.set_cons_zero, List.set_cons_succ]
  refine wpAnyH_take (i := 11) (oi := _) (v := ?_) rfl (by kernel_rfl) (by kernel_rfl) (by kernel_rfl) (fun _ _ _ h => h) (Or.inl ⟨?_, ?_⟩) hHeld ?_
  rotate_left
  · rfl
  · intro w hSw; (try dsimp only at hSw); first | (go_simp; done) | (go_simp; with_reducible rfl)
  try simp only [Act.put, List.getElem_toArray, List.getElem_cons_succ, List.getElem_cons_zero, List.setIfInBounds_toArray, List.set_cons_zero, List.set_cons_succ]
  refine wpAnyH_take (i := 13) (oi := _) (v := ?_) rfl (by kernel_rfl) (by kernel_rfl) (by kernel_rfl) (fun _ _ _ h => h) (Or.inl ⟨?_, ?_⟩) hHeld ?_
  rotate_left
  · rfl
  · intro w hSw; (try dsimp only at hSw); first | (go_simp; done) | (go_simp; with_reducible rfl)
  try simp only [Act.put, List.getElem_toArray, List.getElem_cons_succ, List.getElem_cons_zero, List.setIfInBounds_toArray, List.set_cons_zero, List.set_cons_succ]
  refine wpAnyH_ready (rs := [12]) (by kernel_rfl) (by simp) ?_
  refine AllReadyH.cons (o := _) rfl (fun K hK => ?_) AllReadyH.nil
  go_simp
  go_at_call 12
  refine (quality_any _ q0 told ⟨hq1, hq2⟩).mono ?_
  rintro e w' ⟨rfl, rfl⟩
  go_wp2_with fail
  refine hK.out _ _ hHeld (fun hHeld2 => ?_)
  clear hK K hHeld
  have hHeld := hHeld2
  clear hHeld2
  try simp only [Act.put, List.getElem_toArray, List.getElem_cons_succ, List.getElem_cons_zero, List.setIfInBounds_toArray, List.set_cons_zero, List.set_cons_succ]
  refine wpAnyH_ready (rs := [14]) (by kernel_rfl) (by simp) ?_
  refine AllReadyH.cons (o := _) rfl (fun K hK => ?_) AllReadyH.nil
  go_simp
  go_at_call 11
  refine (HR.out.ec _ (HB4.out.trans (hHeld.2.mono HB4.out.size))).mono ?_
  rintro e w5 ⟨g5, c5, rfl, hrow5, hb5⟩
  have hcv5 := conv_row hrow5
  go_wp2_with fail
  refine hK.out _ _ (HS.out _ (hHeld.2.trans (hb5.mono hHeld.2.size))) (fun hHeld2 => ?_)
  clear hK K hHeld
  have hHeld := hHeld2
  clear hHeld2
  try simp only [Act.put, List.getElem_toArray, List.getElem_cons_succ, List.getElem_cons_zero, List.setIfInBounds_toArray, List.set_cons_zero, List.set_cons_succ]
  refine wpAnyH_ready (rs := [15]) (by kernel_rfl) (by simp) ?_
  refine AllReadyH.cons (o := _) rfl (fun K hK => ?_) AllReadyH.nil
  go_simp
  refine hK.out _ _ hHeld (fun hHeld2 => ?_)
  clear hK K hHeld
  have hHeld := hHeld2
  clear hHeld2
  try simp only [Act.put, List.getElem_toArray, List.getElem_cons_succ, List.getElem_cons_zero, List.setIfInBounds_toArray, List.set_cons_zero, List.set_cons_succ]
  refine wpAnyH_ready (rs := [16]) (by kernel_rfl) (by simp) ?_
  refine AllReadyH.cons (o := _) rfl (fun K hK => ?_) AllReadyH.nil
  go_simp
  refine hK.out _ _ hHeld (fun hHeld2 => ?_)
  clear hK K hHeld
  have hHeld := hHeld2
  clear hHeld2
  try simp only [Act.put, List.getElem_toArray, List.getElem_cons_succ, List.getElem_cons_zero, List.setIfInBounds_toArray, List.set_cons_zero, List.set_cons_succ]
  refine wpAnyH_ready (rs := [17]) (by kernel_rfl) (by simp) ?_
  refine AllReadyH.cons (o := _) rfl (fun K hK => ?_) AllReadyH.nil
  go_simp
  refine hK.out _ _ hHeld (fun hHeld2 => ?_)
  clear hK K hHeld
  have hHeld := hHeld2
  clear hHeld2
  try simp only [Act.put, List.getElem_toArray, List.getElem_cons_succ, List.getElem_cons_zero, List.setIfInBounds_toArray, List.set_cons_zero, List.set_cons_succ]
  refine wpAnyH_ready (rs := [18]) (by kernel_rfl) (by simp) ?_
  refine AllReadyH.cons (o := _) rfl (fun K hK => ?_) AllReadyH.nil
  go_simp
  refine hK.out _ _ hHeld (fun hHeld2 => ?_)
  clear hK K hHeld
  have hHeld := hHeld2
  clear hHeld2
  try simp only [Act.put, List.getElem_toArray, List.getElem_cons_succ, List.getElem_cons_zero, List.setIfInBounds_toArray, List.set_cons_zero, List.set_cons_succ]
  refine wpAnyH_done (by kernel_rfl) ?_ _
  refine NoPanic.normal ?_
  have hlow := HR.out.bw.trans ((HB4.out.trans (hHeld.2.mono HB4.out.size)).mono HR.out.bw.size)
  go_wp2_with fail
  go_ret
  exact ⟨rfl, hlow⟩
end Go.Proofs.YtlibflbpajeeeaaDoor
