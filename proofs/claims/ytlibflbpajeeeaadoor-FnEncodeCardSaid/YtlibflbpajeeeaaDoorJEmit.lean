/- The contract of emit: bits behind the bits. What the encoder reads and never writes: its tables and the three package-level tables; the contracts of emitHuff and emitHuffRLE. The contract of emitHuffRLE. Printed by wip/gen/rle.py (four ways: the number's sign, its table's half). The contract of the reference's rest: the signs that are not among some, in their order. (Joined by wip/gen/merge.py.) -/
import Derived.Test.YtlibflbpajeeeaaDoorJZz
import Derived.Test.YtlibflbpajeeeaaDoorWord
import Derived.Test.YtlibflbpajeeeaaDoorJDiv
import Derived.Laws.BitsAllLaws
namespace Go.Proofs.YtlibflbpajeeeaaDoor
open Go.RowKit

theorem EncAt.emitted {w : World} {E Z : Nat} {v : Value} {s : St} {out : List Int} (h : EncAt w E Z v { s with out := out }) (val : Int) (N : Nat) (hN : N < 8) (hv : 0 ≤ val ∧ val < 2 ^ N) :
    EncAt ((w.setCell ⟨E, 18, none⟩ (.int .u32 (val * 2 ^ (32 - N)))).setCell ⟨E, 19, none⟩ (.int .u32 N)) E Z v ⟨out, val, N⟩ ∧
      EncStep E Z v v w ((w.setCell ⟨E, 18, none⟩ (.int .u32 (val * 2 ^ (32 - N)))).setCell ⟨E, 19, none⟩ (.int .u32 N)) := by
  have ho : ∀ j x, j ≠ 18 ∧ j ≠ 19 → w.cell? ⟨E, j, none⟩ = some x → ((w.setCell ⟨E, 18, none⟩ (.int .u32 (val * 2 ^ (32 - N)))).setCell ⟨E, 19, none⟩ (.int .u32 N)).cell? ⟨E, j, none⟩ = some x := by
    intro j x hj hx
    rw [World.cell?_setCell_other _ _ _ _ (by intro e; injection e; omega), World.cell?_setCell_other _ _ _ _ (by intro e; injection e; omega)]
    exact hx
  refine ⟨⟨ho 0 _ (by decide) h.w0, ho 1 _ (by decide) h.er, fun j hj => ?_, ?_, ?_, fun j hj => ?_, (h.z.setCell _ _ h.ne h.vE).setCell _ _ h.ne h.vE, ⟨hN, hv.1, hv.2⟩, h.ne, h.vE⟩, (EncStep.setE 18 _ (by omega)).trans (EncStep.setE 19 _ (by omega))⟩
  · obtain ⟨x, hx⟩ := h.bu j hj; exact ⟨x, ho (2 + j) _ (by omega) hx⟩
  · rw [World.cell?_setCell_other _ _ _ _ (by intro e; injection e; omega)]
    exact World.cell?_setCell_same _ _ _ h.bi
  · have h19 : (w.setCell ⟨E, 18, none⟩ (.int .u32 (val * 2 ^ (32 - N)))).cell? ⟨E, 19, none⟩ = some (.int .u32 s.n) := by
      rw [World.cell?_setCell_other _ _ _ _ (by intro e; injection e; omega)]
      exact h.nb
    exact World.cell?_setCell_same _ _ _ h19
  · rw [World.frozen?_setCell, World.frozen?_setCell]; exact h.fr j hj

/-- What the loop of emit holds. -/
def EmitRel (w : World) (E Z : Nat) (v : Value) (s F : St) (b n : Value) (wr : World) : Prop :=
  ∃ (f : Nat) (out : List Int) (val : Int) (N : Nat) (v' : Value), b = .int .u32 (val * 2 ^ (32 - N)) ∧ n = .int .u32 N ∧ flushB f out val N = F ∧ N < 8 * (f + 1) ∧ f ≤ 2 ∧ (0 ≤ val ∧ val < 2 ^ N) ∧ out.length + 2 * f ≤ 90000010 ∧
    EncAt wr E Z v' { s with out := out } ∧ EncStep E Z v v' w wr

theorem emit_next {f : Nat} {out : List Int} {val : Int} {N : Nat} {F : St} (hF : flushB f out val N = F) (h8 : 8 ≤ N) (hN : N < 8 * (f + 1)) :
    ∃ g, f = g + 1 ∧ flushB g (out ++ stuffed (val / 2 ^ (N - 8))) (val % 2 ^ (N - 8)) (N - 8) = F ∧ N - 8 < 8 * (g + 1) := by
  obtain ⟨g, rfl⟩ : ∃ g, f = g + 1 := ⟨f - 1, by omega⟩
  refine ⟨g, rfl, ?_, by omega⟩
  rw [← hF]
  simp only [flushB]
  rw [if_pos h8]

set_option maxHeartbeats 2000000 in
theorem emit_any (w : World) (E Z : Nat) (v : Value) (s : St) (x : Int) (k : Nat) (h : EncAt w E Z v s) (hl : s.out.length ≤ 90000000) (hk : k ≤ 16) (hx : 0 ≤ x ∧ x < 2 ^ k) :
    Calls Tryd.prog 63 #[.pointer (some ⟨E, 0, none⟩), .int .u32 x, .int .u32 k] w (Wrote E Z v w (pushBits s x k)) := by
  have hbi := h.bi
  have hnb := h.nb
  have hn := h.ok.n
  have hor := or_disjoint s.acc x s.n k ⟨h.ok.lo, h.ok.hi⟩ hx (by omega)
  have hst : EmitRel w E Z v s (pushBits s x k) (.int .u32 ((s.acc * 2 ^ k + x) * 2 ^ (32 - (k + s.n)))) (.int .u32 (k + s.n)) w := by
    refine ⟨(s.n + k) / 8, s.out, s.acc * 2 ^ k + x, s.n + k, v, by rw [Nat.add_comm], by simp [Int.add_comm], ?_, by omega, by omega, ?_, by omega, h, EncStep.refl _ _ _ _⟩
    · rw [flushB_fuel _ k _ _ _ (by omega) (by omega)]
      have := emit_eq x k s k h.ok (Nat.le_refl _)
      rw [Int.emod_eq_of_lt hx.1 hx.2] at this
      exact this
    · have h1 := scaled_lt s.acc s.n k ⟨h.ok.lo, h.ok.hi⟩
      refine ⟨by omega, ?_⟩
      have h2 : (s.acc + 1) * 2 ^ k ≤ 2 ^ s.n * 2 ^ k := Int.mul_le_mul_of_nonneg_right (by have := h.ok.hi; omega) (by have := pow_pos2 k; omega)
      rw [← pow_split, Int.add_mul] at h2
      omega
  have HST := Lib.hid hst
  have H := Lib.hid h
  clear h hst
  go_enter Tryd.func63, Tryd.ntmps63
  go_wp2_with fail
  go_loopw [1, 2, 6] (fun b n _ wr => EmitRel w E Z v s (pushBits s x k) b n wr) (fun _ n _ _ => (intOf n).toNat)
  case atStart => exact HST.out
  case round =>
    obtain ⟨f, out, val, N, v', rfl, rfl, hF, hNf, hf2, hv, hol, hat, hstep⟩ := hrel
    have HF := Lib.hid hF
    have HV := Lib.hid hv
    have HAT := Lib.hid hat
    have HSTEP := Lib.hid hstep
    clear hor hF hv hat hstep hbi hnb
    by_cases h8 : 8 ≤ N
    · obtain ⟨ht, ht0, ht1⟩ := top_byte val N HV.out h8 (by omega)
      have hlow := low_bits val N h8 (by omega)
      obtain ⟨g, hfg, hF', hN'⟩ := emit_next HF.out h8 hNf
      have hlw : 0 ≤ val % 2 ^ (N - 8) ∧ val % 2 ^ (N - 8) < 2 ^ (N - 8) := ⟨Int.emod_nonneg _ (by have := pow_pos2 (N - 8); omega), Int.emod_lt_of_pos _ (pow_pos2 _)⟩
      obtain ⟨y, hy⟩ : ∃ y, y = val / 2 ^ (N - 8) := ⟨_, rfl⟩
      rw [← hy] at ht ht0 ht1 hF'
      have HF' := Lib.hid hF'
      have HLW := Lib.hid hlw
      clear hF' hlw hy
      by_cases h255 : y = 255
      · subst h255
        go_wp2_with fail
        refine (writeByte_any wr E Z v' _ 255 HAT.out (by simp; omega)).mono ?_
        rintro e w1 ⟨rfl, v1, hat1, hs1⟩
        have HAT1 := Lib.hid hat1
        have HS1 := Lib.hid hs1
        clear hat1 hs1
        go_wp2_with fail
        refine (writeByte_any w1 E Z v1 _ 0 HAT1.out (by simp [St.put]; omega)).mono ?_
        rintro e w2 ⟨rfl, v2, hat2, hs2⟩
        have HAT2 := Lib.hid hat2
        have HS2 := Lib.hid hs2
        clear hat2 hs2
        go_wp2_with fail
        go_roundw
        case rel => exact ⟨g, _, _, N - 8, v2, by rw [hlow], by simp; omega, HF'.out, hN', by omega, HLW.out, by simp [stuffed]; omega, by simpa [St.put, stuffed] using HAT2.out, (HSTEP.out.trans HS1.out).trans HS2.out⟩
        case measure => simp [intOf]; omega
      · have hb : (y == 255) = false := by simpa using h255
        go_wp2_with fail
        refine (writeByte_any wr E Z v' _ y HAT.out (by simp; omega)).mono ?_
        rintro e w1 ⟨rfl, v1, hat1, hs1⟩
        have HAT1 := Lib.hid hat1
        have HS1 := Lib.hid hs1
        clear hat1 hs1
        go_wp2_with fail
        go_roundw
        case rel => exact ⟨g, _, _, N - 8, v1, by rw [hlow], by simp; omega, HF'.out, hN', by omega, HLW.out, by simp [stuffed, h255]; omega, by simpa [St.put, stuffed, h255] using HAT1.out, HSTEP.out.trans HS1.out⟩
        case measure => simp [intOf]; omega
    · have hb18 := HAT.out.bi
      have hb19 := HAT.out.nb
      have hf18 := HAT.out.fr 18 (by decide)
      have hf19 := HAT.out.fr 19 (by decide)
      have D := Lib.hid (HAT.out.emitted val N (by omega) HV.out)
      go_wp2_with fail
      go_end0
      refine ⟨rfl, v', ?_, HSTEP.out.trans D.out.2⟩
      have e := HF.out
      rw [flushB_small _ _ _ _ (by omega)] at e
      rw [← e]
      exact D.out.1

end Go.Proofs.YtlibflbpajeeeaaDoor

namespace Go.Proofs.YtlibflbpajeeeaaDoor
open Go.RowKit

/-- The encoder's codes. -/
structure LutAt (w : World) (E Z : Nat) (v : Value) (Bs : List Nat) : Prop where
  l : ∀ t, t < 4 → ∃ b cap, w.cell? ⟨E, 148 + t, none⟩ = some (.slice (some ⟨b, 0, none⟩) (lutL t).length cap) ∧ b ≠ E ∧ b ≠ Z ∧ b ∉ Bs ∧ v.ownBlock ≠ some b ∧ b < w.heap.size ∧
    ∀ s, s < (lutL t).length → w.cell? ⟨b, s, none⟩ = some (.int .u32 (lutV t s))

/-- What turns while blocks are written: E, Z, the row's, and some blocks more; of E only the cells 1 to 19. -/
structure Step2 (E Z : Nat) (Bs : List Nat) (v v' : Value) (w w' : World) : Prop where
  k : Keeps (E :: Z :: Bs) v v' w w'
  ec : ∀ j, j < 1 ∨ 20 ≤ j → w'.cell? ⟨E, j, none⟩ = w.cell? ⟨E, j, none⟩
  ef : ∀ j, w'.frozen? ⟨E, j, none⟩ = w.frozen? ⟨E, j, none⟩
theorem EncStep.to {E Z : Nat} {v v' : Value} {w w' : World} (h : EncStep E Z v v' w w') (Bs : List Nat) : Step2 E Z Bs v v' w w' := ⟨h.k.wider (by intro b hb; simp at hb ⊢; rcases hb with h | h <;> simp [h]), h.ec, h.ef⟩
theorem Step2.refl (E Z : Nat) (Bs : List Nat) (v : Value) (w : World) : Step2 E Z Bs v v w w := ⟨Keeps.refl _ _ _, fun _ _ => rfl, fun _ => rfl⟩
theorem Step2.trans {E Z : Nat} {Bs : List Nat} {u v x : Value} {a b c : World} (h : Step2 E Z Bs u v a b) (k : Step2 E Z Bs v x b c) : Step2 E Z Bs u x a c :=
  ⟨h.k.trans k.k, fun j hj => (k.ec j hj).trans (h.ec j hj), fun j => (k.ef j).trans (h.ef j)⟩
theorem Step2.wider {E Z : Nat} {Bs Cs : List Nat} {v v' : Value} {w w' : World} (h : Step2 E Z Bs v v' w w') (hb : ∀ b ∈ Bs, b ∈ Cs) : Step2 E Z Cs v v' w w' :=
  ⟨h.k.wider (by intro b hb'; simp at hb' ⊢; rcases hb' with h1 | h1 | h1; exact .inl h1; exact .inr (.inl h1); exact .inr (.inr (hb b h1))), h.ec, h.ef⟩

/-- The package-level tables, and the encoder's quantization tables and codes. -/
structure Fix (w : World) (E Z : Nat) (v : Value) (Bs : List Nat) (Q : Nat → Nat → Int) : Prop where
  qu : ∀ q, q < 2 → ∀ j, j < 64 → w.cell? ⟨E, 20 + (64 * q + j), none⟩ = some (.int .u8 (Q q j))
  lut : LutAt w E Z v Bs
  zig : ∀ j, j < 64 → w.cell? ⟨1, j, none⟩ = some (.int .i64 (zzAt j))
  bc : ∀ j, j < 256 → w.cell? ⟨2, j, none⟩ = some (.int .u8 (szN 8 j))
  gE : 2 < E ∧ 2 < Z ∧ (∀ b ∈ Bs, 2 < b) ∧ 2 < w.heap.size
  gv : ∀ g, v.ownBlock = some g → 2 < g

theorem LutAt.step {w w' : World} {E Z : Nat} {v v' : Value} {Bs : List Nat} (h : LutAt w E Z v Bs) (k : Step2 E Z Bs v v' w w') : LutAt w' E Z v' Bs := by
  refine ⟨fun t ht => ?_⟩
  obtain ⟨b, cap, hc, h1, h2, h3, h4, h5, h6⟩ := h.l t ht
  refine ⟨b, cap, (k.ec _ (by omega)).trans hc, h1, h2, h3, ?_, Nat.lt_of_lt_of_le h5 k.k.size, fun s hs => ?_⟩
  · intro e
    rcases k.k.own b e with h | h
    · exact h4 h
    · omega
  · exact (k.k.cell (x := ⟨b, s, none⟩) h5 (by simp [h1, h2, h3]) h4).trans (h6 s hs)
theorem Fix.step {w w' : World} {E Z : Nat} {v v' : Value} {Bs : List Nat} {Q : Nat → Nat → Int} (h : Fix w E Z v Bs Q) (k : Step2 E Z Bs v v' w w') : Fix w' E Z v' Bs Q := by
  obtain ⟨g1, g2, g3, g4⟩ := h.gE
  have low : ∀ g, g ≤ 2 → g ∉ E :: Z :: Bs := by
    intro g hg hm
    simp at hm
    rcases hm with h | h | h
    · omega
    · omega
    · have := g3 g h; omega
  have lown : ∀ g, g ≤ 2 → v.ownBlock ≠ some g := fun g hg e => by have := h.gv g e; omega
  refine ⟨fun q hq j hj => (k.ec _ (by omega)).trans (h.qu q hq j hj), h.lut.step k, fun j hj => (k.k.cell (x := ⟨1, j, none⟩) (by show 1 < _; omega) (low 1 (by omega)) (lown 1 (by omega))).trans (h.zig j hj), fun j hj => (k.k.cell (x := ⟨2, j, none⟩) g4 (low 2 (by omega)) (lown 2 (by omega))).trans (h.bc j hj),
    ⟨g1, g2, g3, Nat.lt_of_lt_of_le g4 k.k.size⟩, fun g hg => ?_⟩
  rcases k.k.own g hg with h1 | h1
  · exact h.gv g h1
  · omega

theorem and24 (x : Int) (h : 0 ≤ x ∧ x < 4294967296) : bits BinOp.and IntKind.u32 x 16777215 = x % 16777216 := by
  rw [u32_and _ _ h.1 h.2 (by decide) (by decide)]
  obtain ⟨a, rfl⟩ := Int.eq_ofNat_of_zero_le h.1
  rw [show ((16777215 : Int)).toNat = 2 ^ 24 - 1 by decide, Int.toNat_natCast, Nat.and_two_pow_sub_one_eq_mod, show (2 : Nat) ^ 24 = 16777216 from rfl]
  exact Int.natCast_emod a 16777216

set_option maxRecDepth 100000 in
set_option maxHeartbeats 1000000 in
theorem emitHuff_any (w : World) (E Z : Nat) (v : Value) (Bs : List Nat) (s : St) (t c : Nat) (h : EncAt w E Z v s) (hf : LutAt w E Z v Bs) (hl : s.out.length ≤ 90000000) (ht : t < 4) (hc : c < (lutL t).length) :
    Calls Tryd.prog 70 #[.pointer (some ⟨E, 0, none⟩), .int .i64 t, .int .i32 c] w (Wrote E Z v w (huff s t c)) := by
  obtain ⟨b, cap, hlc, _, _, _, _, _, hcs⟩ := hf.l t ht
  have hcell := hcs c hc
  have hlen := lut_len_le t ht
  obtain ⟨f1, f2, f3, f4, f5⟩ := code_fits t ht c (by omega)
  have hand := and24 _ ⟨f1, f2⟩
  obtain ⟨x, hx⟩ : ∃ x, x = lutV t c := ⟨_, rfl⟩
  have hwide : x / 16777216 = (wideOf t c : Int) := by unfold wideOf; rw [← hx]; omega
  have hco : codeOf t c = x % 16777216 := by unfold codeOf; rw [hx]
  rw [← hx] at hcell hand f1 f2
  have e := emit_any w E Z v s (codeOf t c) (wideOf t c) h hl f3 ⟨f4, f5⟩
  rw [hco] at e
  unfold huff
  rw [hco]
  have HE := Lib.hid e
  clear hx hco hcs e f3 f4 f5 h
  go_enter Tryd.func70, Tryd.ntmps70
  go_wp2_with fail
  refine HE.out.mono ?_
  rintro e w1 ⟨rfl, r⟩
  go_wp2_with fail
  go_end0
  exact ⟨rfl, r⟩

end Go.Proofs.YtlibflbpajeeeaaDoor

namespace Go.Proofs.YtlibflbpajeeeaaDoor
open Go.RowKit

theorem bc_small : ∀ a, a < 256 → szN 8 a = szN 12 a := by decide +kernel
theorem bc_big : ∀ a, a < 2048 → 256 ≤ a → 8 + szN 8 (a / 256) = szN 12 a := by decide +kernel
theorem or_nibble : ∀ r, r < 16 → ∀ k, k < 16 → bits BinOp.or IntKind.i32 ((r : Nat) * 16 : Int) ((k : Nat) : Int) = ((r * 16 + k : Nat) : Int) := by decide +kernel

theorem mask_k (X : Int) (k : Nat) (h : 0 ≤ X ∧ X < 4294967296) (hk : k ≤ 31) : bits BinOp.and IntKind.u32 X ((2 ^ k - 1) % 4294967296) = X % 2 ^ k := by
  have hp := pow_pos2 k
  have hq := pow_le (show k ≤ 32 by omega)
  have e32 : (4294967296 : Int) = 2 ^ 32 := by decide
  rw [Int.emod_eq_of_lt (by omega) (by omega)]
  rw [u32_and _ _ h.1 h.2 (by omega) (by omega)]
  obtain ⟨a, rfl⟩ := Int.eq_ofNat_of_zero_le h.1
  have e : ((2 : Int) ^ k - 1).toNat = 2 ^ k - 1 := by
    have hn := pow_nat k
    omega
  rw [e, Int.toNat_natCast, Nat.and_two_pow_sub_one_eq_mod]
  rw [← pow_nat]
  exact Int.natCast_emod _ _


set_option maxRecDepth 100000 in
set_option maxHeartbeats 1000000 in
theorem rle_pos (w : World) (E Z : Nat) (v : Value) (Bs : List Nat) (Q : Nat → Nat → Int) (s : St) (t r a : Nat) (h : EncAt w E Z v s) (hf : Fix w E Z v Bs Q) (hl : s.out.length ≤ 80000000) (ht : t < 4) (hr : r < 16)
    (ha : a < 256) (hc : r * 16 + size (a : Int) < (lutL t).length) :
    Calls Tryd.prog 69 #[.pointer (some ⟨E, 0, none⟩), .int .i64 t, .int .i32 r, .int .i32 (a : Int)] w (Wrote E Z v w (sym s t (r * 16 + size (a : Int)) (coded (a : Int)) (size (a : Int)))) := by
  have hk : size (a : Int) ≤ 11 := size_le (a : Int) 11 (by omega)
  have hfit := coded_fits (a : Int) (by omega)
  have hmask := coded_mask (a : Int) (by omega)
  rw [if_neg (by omega)] at hmask
  have hcell := hf.bc a ha
  have e8 : szN 8 a = size (a : Int) := by unfold size; rw [Int.natAbs_natCast]; exact bc_small a ha
  obtain ⟨k, hk'⟩ : ∃ k, k = size (a : Int) := ⟨_, rfl⟩
  rw [e8] at hcell
  rw [← hk'] at hcell hk hfit hmask hc ⊢
  clear e8
  have hor := or_nibble r hr (k) (by omega)
  have hand := mask_k (a : Int) (k) (by omega) (by omega)
  rw [hmask] at hand
  obtain ⟨y, hy⟩ : ∃ y, y = coded (a : Int) := ⟨_, rfl⟩
  rw [← hy] at hfit hand ⊢
  have HH := Lib.hid (fun u => emitHuff_any u E Z v Bs s t (r * 16 + (k)))
  have HF := Lib.hid hf
  have H := Lib.hid h
  have HFIT := Lib.hid hfit
  clear h hf hk' hfit hmask hy
  go_enter Tryd.func69, Tryd.ntmps69
  go_wp2_with fail
  refine (HH.out _ H.out HF.out.lut (by omega) ht hc).mono ?_
  rintro e w1 ⟨rfl, v1, h1, h2⟩
  have H1 := Lib.hid h1
  have H2 := Lib.hid h2
  have hlen := (huff_len s t (r * 16 + (k)) ht (by have := lut_len_le t ht; omega)).2
  clear h1 h2
  by_cases hk0 : k = 0
  · subst hk0
    go_wp2_with fail
    go_end0
    exact ⟨rfl, v1, H1.out, H2.out⟩
  · go_wp2_with fail
    refine (emit_any w1 E Z v1 _ y k H1.out (by omega) (by omega) HFIT.out).mono ?_
    rintro e w2 ⟨rfl, v2, h1, h2⟩
    go_wp2_with fail
    go_end0
    exact ⟨rfl, v2, h1, H2.out.trans h2⟩

set_option maxRecDepth 100000 in
set_option maxHeartbeats 1000000 in
theorem rle_pos_big (w : World) (E Z : Nat) (v : Value) (Bs : List Nat) (Q : Nat → Nat → Int) (s : St) (t r a : Nat) (h : EncAt w E Z v s) (hf : Fix w E Z v Bs Q) (hl : s.out.length ≤ 80000000) (ht : t < 4) (hr : r < 16)
    (ha : 256 ≤ a ∧ a < 2048) (hc : r * 16 + size (a : Int) < (lutL t).length) :
    Calls Tryd.prog 69 #[.pointer (some ⟨E, 0, none⟩), .int .i64 t, .int .i32 r, .int .i32 (a : Int)] w (Wrote E Z v w (sym s t (r * 16 + size (a : Int)) (coded (a : Int)) (size (a : Int)))) := by
  have hk : size (a : Int) ≤ 11 := size_le (a : Int) 11 (by omega)
  have hfit := coded_fits (a : Int) (by omega)
  have hmask := coded_mask (a : Int) (by omega)
  rw [if_neg (by omega)] at hmask
  have hcell := hf.bc (a / 256) (by omega)
  have e8 : 8 + szN 8 (a / 256) = size (a : Int) := by unfold size; rw [Int.natAbs_natCast]; exact bc_big a ha.2 ha.1
  have hidx : ((a : Int) / 256).toNat = a / 256 := by omega
  obtain ⟨k, hk'⟩ : ∃ k, k = size (a : Int) := ⟨_, rfl⟩
  rw [← hk'] at hk hfit hmask hc e8 ⊢
  have e9 : ((szN 8 (a / 256) : Nat) : Int) = (k : Int) - 8 := by omega
  have hk8 : 8 ≤ k := by omega
  rw [e9] at hcell
  have hks : 8 + ((k : Int) - 8) = k := by omega
  clear e8 e9
  have hor := or_nibble r hr (k) (by omega)
  have hand := mask_k (a : Int) (k) (by omega) (by omega)
  rw [hmask] at hand
  obtain ⟨y, hy⟩ : ∃ y, y = coded (a : Int) := ⟨_, rfl⟩
  rw [← hy] at hfit hand ⊢
  have HH := Lib.hid (fun u => emitHuff_any u E Z v Bs s t (r * 16 + (k)))
  have HF := Lib.hid hf
  have H := Lib.hid h
  have HFIT := Lib.hid hfit
  clear h hf hk' hfit hmask hy
  go_enter Tryd.func69, Tryd.ntmps69
  go_wp2_with fail
  refine (HH.out _ H.out HF.out.lut (by omega) ht hc).mono ?_
  rintro e w1 ⟨rfl, v1, h1, h2⟩
  have H1 := Lib.hid h1
  have H2 := Lib.hid h2
  have hlen := (huff_len s t (r * 16 + (k)) ht (by have := lut_len_le t ht; omega)).2
  clear h1 h2
  go_wp2_with fail
  refine (emit_any w1 E Z v1 _ y (k) H1.out (by omega) (by omega) HFIT.out).mono ?_
  rintro e w2 ⟨rfl, v2, h1, h2⟩
  go_wp2_with fail
  go_end0
  exact ⟨rfl, v2, h1, H2.out.trans h2⟩

set_option maxRecDepth 100000 in
set_option maxHeartbeats 1000000 in
theorem rle_neg (w : World) (E Z : Nat) (v : Value) (Bs : List Nat) (Q : Nat → Nat → Int) (s : St) (t r a : Nat) (h : EncAt w E Z v s) (hf : Fix w E Z v Bs Q) (hl : s.out.length ≤ 80000000) (ht : t < 4) (hr : r < 16)
    (ha : a < 256) (ha1 : 1 ≤ a) (hc : r * 16 + size (-(a : Int)) < (lutL t).length) :
    Calls Tryd.prog 69 #[.pointer (some ⟨E, 0, none⟩), .int .i64 t, .int .i32 r, .int .i32 (-(a : Int))] w (Wrote E Z v w (sym s t (r * 16 + size (-(a : Int))) (coded (-(a : Int))) (size (-(a : Int))))) := by
  have hk : size (-(a : Int)) ≤ 11 := size_le (-(a : Int)) 11 (by omega)
  have hfit := coded_fits (-(a : Int)) (by omega)
  have hmask := coded_mask (-(a : Int)) (by omega)
  rw [if_pos (by omega)] at hmask
  have hcell := hf.bc a ha
  have e8 : szN 8 a = size (-(a : Int)) := by unfold size; rw [Int.natAbs_neg, Int.natAbs_natCast]; exact bc_small a ha
  obtain ⟨k, hk'⟩ : ∃ k, k = size (-(a : Int)) := ⟨_, rfl⟩
  rw [e8] at hcell
  rw [← hk'] at hcell hk hfit hmask hc ⊢
  clear e8
  have hor := or_nibble r hr (k) (by omega)
  have hand := mask_k ((-(a : Int) - 1) % 4294967296) (k) (by omega) (by omega)
  have hmod : (-(a : Int) - 1) % 4294967296 % 2 ^ (k) = (-(a : Int) - 1) % 2 ^ (k) := by
    refine Int.emod_emod_of_dvd _ ⟨2 ^ (32 - (k)), ?_⟩
    rw [← pow_split, show k + (32 - (k)) = 32 by omega]
    decide
  rw [hmod, hmask] at hand
  obtain ⟨y, hy⟩ : ∃ y, y = coded (-(a : Int)) := ⟨_, rfl⟩
  rw [← hy] at hfit hand ⊢
  have HH := Lib.hid (fun u => emitHuff_any u E Z v Bs s t (r * 16 + (k)))
  have HF := Lib.hid hf
  have H := Lib.hid h
  have HFIT := Lib.hid hfit
  clear h hf hk' hfit hmask hy hmod
  go_enter Tryd.func69, Tryd.ntmps69
  go_wp2_with fail
  refine (HH.out _ H.out HF.out.lut (by omega) ht hc).mono ?_
  rintro e w1 ⟨rfl, v1, h1, h2⟩
  have H1 := Lib.hid h1
  have H2 := Lib.hid h2
  have hlen := (huff_len s t (r * 16 + (k)) ht (by have := lut_len_le t ht; omega)).2
  clear h1 h2
  by_cases hk0 : k = 0
  · subst hk0
    go_wp2_with fail
    go_end0
    exact ⟨rfl, v1, H1.out, H2.out⟩
  · go_wp2_with fail
    refine (emit_any w1 E Z v1 _ y k H1.out (by omega) (by omega) HFIT.out).mono ?_
    rintro e w2 ⟨rfl, v2, h1, h2⟩
    go_wp2_with fail
    go_end0
    exact ⟨rfl, v2, h1, H2.out.trans h2⟩

set_option maxRecDepth 100000 in
set_option maxHeartbeats 1000000 in
theorem rle_neg_big (w : World) (E Z : Nat) (v : Value) (Bs : List Nat) (Q : Nat → Nat → Int) (s : St) (t r a : Nat) (h : EncAt w E Z v s) (hf : Fix w E Z v Bs Q) (hl : s.out.length ≤ 80000000) (ht : t < 4) (hr : r < 16)
    (ha : 256 ≤ a ∧ a < 2048) (ha1 : 1 ≤ a) (hc : r * 16 + size (-(a : Int)) < (lutL t).length) :
    Calls Tryd.prog 69 #[.pointer (some ⟨E, 0, none⟩), .int .i64 t, .int .i32 r, .int .i32 (-(a : Int))] w (Wrote E Z v w (sym s t (r * 16 + size (-(a : Int))) (coded (-(a : Int))) (size (-(a : Int))))) := by
  have hk : size (-(a : Int)) ≤ 11 := size_le (-(a : Int)) 11 (by omega)
  have hfit := coded_fits (-(a : Int)) (by omega)
  have hmask := coded_mask (-(a : Int)) (by omega)
  rw [if_pos (by omega)] at hmask
  have hcell := hf.bc (a / 256) (by omega)
  have e8 : 8 + szN 8 (a / 256) = size (-(a : Int)) := by unfold size; rw [Int.natAbs_neg, Int.natAbs_natCast]; exact bc_big a ha.2 ha.1
  have hidx : ((a : Int) / 256).toNat = a / 256 := by omega
  obtain ⟨k, hk'⟩ : ∃ k, k = size (-(a : Int)) := ⟨_, rfl⟩
  rw [← hk'] at hk hfit hmask hc e8 ⊢
  have e9 : ((szN 8 (a / 256) : Nat) : Int) = (k : Int) - 8 := by omega
  have hk8 : 8 ≤ k := by omega
  rw [e9] at hcell
  have hks : 8 + ((k : Int) - 8) = k := by omega
  clear e8 e9
  have hor := or_nibble r hr (k) (by omega)
  have hand := mask_k ((-(a : Int) - 1) % 4294967296) (k) (by omega) (by omega)
  have hmod : (-(a : Int) - 1) % 4294967296 % 2 ^ (k) = (-(a : Int) - 1) % 2 ^ (k) := by
    refine Int.emod_emod_of_dvd _ ⟨2 ^ (32 - (k)), ?_⟩
    rw [← pow_split, show k + (32 - (k)) = 32 by omega]
    decide
  rw [hmod, hmask] at hand
  obtain ⟨y, hy⟩ : ∃ y, y = coded (-(a : Int)) := ⟨_, rfl⟩
  rw [← hy] at hfit hand ⊢
  have HH := Lib.hid (fun u => emitHuff_any u E Z v Bs s t (r * 16 + (k)))
  have HF := Lib.hid hf
  have H := Lib.hid h
  have HFIT := Lib.hid hfit
  clear h hf hk' hfit hmask hy hmod
  go_enter Tryd.func69, Tryd.ntmps69
  go_wp2_with fail
  refine (HH.out _ H.out HF.out.lut (by omega) ht hc).mono ?_
  rintro e w1 ⟨rfl, v1, h1, h2⟩
  have H1 := Lib.hid h1
  have H2 := Lib.hid h2
  have hlen := (huff_len s t (r * 16 + (k)) ht (by have := lut_len_le t ht; omega)).2
  clear h1 h2
  go_wp2_with fail
  refine (emit_any w1 E Z v1 _ y (k) H1.out (by omega) (by omega) HFIT.out).mono ?_
  rintro e w2 ⟨rfl, v2, h1, h2⟩
  go_wp2_with fail
  go_end0
  exact ⟨rfl, v2, h1, H2.out.trans h2⟩

theorem rle_any (w : World) (E Z : Nat) (v : Value) (Bs : List Nat) (Q : Nat → Nat → Int) (s : St) (t r : Nat) (x : Int) (h : EncAt w E Z v s) (hf : Fix w E Z v Bs Q) (hl : s.out.length ≤ 80000000) (ht : t < 4) (hr : r < 16)
    (hx : x.natAbs < 2048) (hc : r * 16 + size x < (lutL t).length) :
    Calls Tryd.prog 69 #[.pointer (some ⟨E, 0, none⟩), .int .i64 t, .int .i32 r, .int .i32 x] w (Wrote E Z v w (sym s t (r * 16 + size x) (coded x) (size x))) := by
  by_cases h0 : 0 ≤ x
  · obtain ⟨a, rfl⟩ := Int.eq_ofNat_of_zero_le h0
    by_cases h1 : a < 256
    · exact rle_pos w E Z v Bs Q s t r a h hf hl ht hr h1 hc
    · exact rle_pos_big w E Z v Bs Q s t r a h hf hl ht hr ⟨by omega, by omega⟩ hc
  · obtain ⟨a, ha⟩ : ∃ a : Nat, x = -(a : Int) := ⟨x.natAbs, by omega⟩
    subst ha
    by_cases h1 : a < 256
    · exact rle_neg w E Z v Bs Q s t r a h hf hl ht hr h1 (by omega) hc
    · exact rle_neg_big w E Z v Bs Q s t r a h hf hl ht hr ⟨by omega, by omega⟩ (by omega) hc

end Go.Proofs.YtlibflbpajeeeaaDoor

namespace Go.Proofs.YtlibflbpajeeeaaDoor
open Go.RowKit

def skips (s : Nat) : Bool := (s % 16 == 0 && s != 0 && s != 240) || decide (10 < s % 16)
def inB (xs : List Int) (s k : Nat) : Bool := decide ((s : Int) ∈ xs.take k)
def restL (xs : List Int) : Nat → List Int
  | 0 => []
  | s + 1 => if (skips s || inB xs s xs.length) = true then restL xs s else restL xs s ++ [(s : Int)]
theorem restL_len (xs : List Int) : ∀ n, (restL xs n).length ≤ n := by
  intro n
  induction n with
  | zero => exact Nat.le_refl 0
  | succ n ih =>
    rw [restL]
    split
    · omega
    · rw [List.length_append, List.length_singleton]; omega
theorem restL_skip (xs : List Int) (s : Nat) (h : skips s = true) : restL xs (s + 1) = restL xs s := by
  rw [restL, if_pos]; rw [h]; rfl
theorem restL_in (xs : List Int) (s : Nat) (h : inB xs s xs.length = true) : restL xs (s + 1) = restL xs s := by
  rw [restL, if_pos]; rw [h, Bool.or_true]
theorem restL_keep (xs : List Int) (s : Nat) (h : skips s = false) (h2 : inB xs s xs.length = false) : restL xs (s + 1) = restL xs s ++ [(s : Int)] := by
  rw [restL, if_neg]; rw [h, h2]; decide

theorem and15 : ∀ x, x < 256 → bits BinOp.and IntKind.i64 ((x : Nat) : Int) 15 = (x : Int) % 16 := by decide +kernel

theorem inB_zero (xs : List Int) (s : Nat) : inB xs s 0 = false := by unfold inB; simp
theorem inB_succ (xs : List Int) (s k : Nat) (hk : k < xs.length) : inB xs s (k + 1) = (inB xs s k || xs.getD k 0 == (s : Int)) := by
  unfold inB
  rw [List.take_succ_eq_append_getElem hk, List.getD_eq_getElem?_getD, List.getElem?_eq_getElem hk, Option.getD_some]
  rw [Bool.eq_iff_iff]
  simp only [decide_eq_true_eq, List.mem_append, List.mem_singleton, Bool.or_eq_true, beq_iff_eq]
  constructor
  · rintro (h | h)
    · exact .inl h
    · exact .inr h.symm
  · rintro (h | h)
    · exact .inl h
    · exact .inr h.symm

def RestRel (w : World) (xs : List Int) (ov : Value) (n : Nat) (wr : World) : Prop := RowAt wr 3 ov ((restL xs n).map i64v) ∧ (∀ g, ov.ownBlock = some g → w.heap.size ≤ g) ∧ Below w.heap.size w wr

/-- Behind an append of one int. -/
theorem RestRel.push {w wr w1 : World} {xs : List Int} {ov : Value} {s g n cap : Nat} (h : RestRel w xs ov s wr) (hk : restL xs (s + 1) = restL xs s ++ [(s : Int)])
    (hrow : RowAt w1 3 (.slice (some ⟨g, 0, none⟩) n cap) ((restL xs s ++ [(s : Int)]).map i64v)) (hg : (wr.alloc (.cells #[.int .i64 (s : Int)] 3)).grownBy w1 ov.ownBlock) (ho : ov.ownBlock = some g ∨ wr.heap.size + 1 ≤ g) :
    RestRel w xs (.slice (some ⟨g, 0, none⟩) n cap) (s + 1) w1 := by
  obtain ⟨h1, h2, h3⟩ := h
  have hs := h3.size
  refine ⟨by rw [hk]; exact hrow, fun k hk' => ?_, (h3.alloc h3.size _).grown hg (by simp; omega) h2⟩
  simp [Value.ownBlock] at hk'
  subst hk'
  rcases ho with e | e
  · exact h2 _ e
  · omega

set_option maxRecDepth 100000 in
set_option maxHeartbeats 4000000 in
theorem rest_any (w : World) (v : Value) (xs : List Int) (h : RowAt w 3 v (xs.map i64v)) (hn : 0 < xs.length) (hl : xs.length ≤ 100) :
    Calls Tryd.prog 49 #[v] w fun e w' => ∃ v', e = .returned v' ∧ RowAt w' 3 v' ((restL xs 256).map i64v) ∧ Below w.heap.size w w' ∧ ∀ g, v'.ownBlock = some g → w.heap.size ≤ g := by
  obtain ⟨g, cap, rfl, hg, hnews⟩ := h.news (by simpa using hn)
  rw [List.length_map]
  obtain ⟨n, hn'⟩ : ∃ n, n = xs.length := ⟨_, rfl⟩
  rw [← hn'] at hn hl ⊢
  have hcell : ∀ j, j < n → w.cell? ⟨g, j, none⟩ = some (.int .i64 (xs.getD j 0)) := fun j hj => by
    have hj' : j < xs.length := by omega
    have := hnews j (i64v (xs.getD j 0)) (by rw [List.getElem?_map, List.getD_eq_getElem?_getD, List.getElem?_eq_getElem hj']; rfl)
    rw [Addr.add_lit, Nat.zero_add] at this
    exact this
  have HC := Lib.hid hcell
  have HN := Lib.hid hn'
  clear h hnews hn' hcell
  go_enter Tryd.func49, Tryd.ntmps49
  go_wp2_with fail
  go_loopw [3, 4, 5, 7, 9] (fun ov _ _ _ sv wr => ∃ s : Nat, s ≤ 256 ∧ sv = .int .i64 s ∧ RestRel w xs ov s wr) (fun _ _ _ _ sv _ => 256 - (intOf sv).toNat)
  case atStart => exact ⟨0, by omega, rfl, RowAt.lit w #[] 3 (by simp), fun k hk => by simp [Value.ownBlock] at hk; omega, (Below.refl _ _).alloc (Nat.le_refl _) _⟩
  case round =>
    obtain ⟨s, hs, rfl, hr⟩ := hrel
    have HR := Lib.hid hr
    clear hr
    by_cases hs256 : s < 256
    · have ha := and15 s hs256
      have hcas : (s % 16 = 0 ∧ s ≠ 0 ∧ s ≠ 240) ∨ (10 < s % 16) ∨ (s % 16 = 0 ∧ s = 0) ∨ (s % 16 = 0 ∧ s = 240) ∨ (s % 16 ≠ 0 ∧ s % 16 ≤ 10) := by omega
      rcases hcas with ⟨h1, h2, h3⟩ | h1 | hkeep
      · have b1 : ((s : Int) % 16 == 0) = true := by simp; omega
        have b2 : ((s : Int) != 0) = true := by simp; omega
        have b3 : ((s : Int) != 240) = true := by simp; omega
        have hsk := restL_skip xs s (by unfold skips; simp [h1, h2, h3])
        have HSK := Lib.hid hsk
        clear hsk h1 h2 h3
        go_wp2_with fail
        go_roundw
        case rel => exact ⟨s + 1, by omega, by go_num, by unfold RestRel; rw [HSK.out]; exact HR.out⟩
        case measure => simp [intOf]; omega
      · have b1 : ((s : Int) % 16 == 0) = false := by simp; omega
        have b2 : decide (10 < (s : Int) % 16) = true := by simp; omega
        have hsk := restL_skip xs s (by unfold skips; simp [h1])
        have HSK := Lib.hid hsk
        clear hsk h1
        go_wp2_with fail
        go_roundw
        case rel => exact ⟨s + 1, by omega, by go_num, by unfold RestRel; rw [HSK.out]; exact HR.out⟩
        case measure => simp [intOf]; omega
      · have hsk : skips s = false := by
          unfold skips
          rcases hkeep with ⟨h1, h2⟩ | ⟨h1, h2⟩ | ⟨h1, h2⟩
          · subst h2; rfl
          · subst h2; rfl
          · simp; omega
        have hbs : (((s : Int) % 16 == 0) = true ∧ ((s : Int) != 0) = false ∧ ((s : Int) != 240) = true ∧ decide (10 < (s : Int) % 16) = false) ∨ (((s : Int) % 16 == 0) = true ∧ ((s : Int) != 0) = true ∧ ((s : Int) != 240) = false ∧ decide (10 < (s : Int) % 16) = false) ∨
            (((s : Int) % 16 == 0) = false ∧ ((s : Int) != 0) = true ∧ ((s : Int) != 240) = true ∧ decide (10 < (s : Int) % 16) = false) := by
          rcases hkeep with ⟨h1, h2⟩ | ⟨h1, h2⟩ | ⟨h1, h2⟩
          · exact .inl ⟨by simp; omega, by simp; omega, by simp; omega, by simp; omega⟩
          · exact .inr (.inl ⟨by simp; omega, by simp; omega, by simp; omega, by simp; omega⟩)
          · exact .inr (.inr ⟨by simp; omega, by simp; omega, by simp; omega, by simp; omega⟩)
        have HSK := Lib.hid hsk
        clear hsk hkeep
        rcases hbs with ⟨b1, b2, b3, b4⟩ | ⟨b1, b2, b3, b4⟩ | ⟨b1, b2, b3, b4⟩
        all_goals
          go_wp2_with fail
          go_loop [5, 7, 30] (fun iv _ kv => ∃ k : Nat, k ≤ n ∧ kv = .int .i64 k ∧ iv = .bool (inB xs s k)) (fun _ _ kv => n - (intOf kv).toNat)
          case atStart => exact ⟨0, by omega, rfl, by rw [inB_zero]⟩
          case round =>
            obtain ⟨k, hk, rfl, rfl⟩ := hrel
            by_cases hkn : k < n
            · have hck : wr.cell? ⟨g, k, none⟩ = some (.int .i64 (xs.getD k 0)) := (HR.out.2.2.cell (p := ⟨g, k, none⟩) hg).trans (HC.out k hkn)
              have hsu := inB_succ xs s k (by rw [← HN.out]; exact hkn)
              obtain ⟨x, hx⟩ : ∃ x, x = xs.getD k 0 := ⟨_, rfl⟩
              obtain ⟨b, hb⟩ : ∃ b, b = inB xs s k := ⟨_, rfl⟩
              rw [← hx] at hck hsu
              rw [← hb] at hsu ⊢
              have HSU := Lib.hid hsu
              clear hx hb hsu
              cases b with
              | true =>
                go_wp2_with fail
                go_round
                case rel => exact ⟨k + 1, by omega, by go_num, by rw [HSU.out]; rfl⟩
                case measure => simp [intOf]; omega
              | false =>
                by_cases hxs : x = (s : Int)
                · have hxb : (x == (s : Int)) = true := by simp; omega
                  have hsu2 := HSU.out
                  rw [hxb] at hsu2
                  have HSU2 := Lib.hid hsu2
                  clear hsu2 HSU hxs
                  go_wp2_with fail
                  go_round
                  case rel => exact ⟨k + 1, by omega, by go_num, by rw [HSU2.out]; rfl⟩
                  case measure => simp [intOf]; omega
                · have hxb : (x == (s : Int)) = false := by simp; omega
                  have hsu2 := HSU.out
                  rw [hxb] at hsu2
                  have HSU2 := Lib.hid hsu2
                  clear hsu2 HSU hxs
                  go_wp2_with fail
                  go_round
                  case rel => exact ⟨k + 1, by omega, by go_num, by rw [HSU2.out]; rfl⟩
                  case measure => simp [intOf]; omega
            · obtain rfl : k = n := by omega
              obtain ⟨b, hb⟩ : ∃ b, b = inB xs s k := ⟨_, rfl⟩
              rw [← hb]
              have hb' : inB xs s xs.length = b := by rw [hb, HN.out]
              have HB := Lib.hid hb'
              clear hb hb'
              cases b with
              | true =>
                go_wp2_with fail
                go_roundw
                case rel => exact ⟨s + 1, by omega, by go_num, by unfold RestRel; rw [restL_in xs s HB.out]; exact HR.out⟩
                case measure => simp [intOf]; omega
              | false =>
                have hlen := restL_len xs s
                go_wp2_with (at_builtin; refine app3 rfl _ _ rfl _ (restL xs s) rfl (HR.out.1.alloc _) ⟨wr.heap.size, 0, none⟩ 1 1 [(s : Int)] rfl rfl (by decide) (news_lit _ [.int .i64 (s : Int)] 3) (by omega) ?_)
                intro g2 cap2 w2 hrow hgr ho hlt
                have P := Lib.hid (HR.out.push (restL_keep xs s HSK.out HB.out) (by rw [List.map_append]; exact hrow) hgr ho)
                clear hrow hgr ho hlt
                go_wp2_with fail
                go_roundw
                case rel => exact ⟨s + 1, by omega, by go_num, P.out⟩
                case measure => simp [intOf]; omega
    · obtain rfl : s = 256 := by omega
      go_wp2_with fail
      go_ret
      exact ⟨_, rfl, HR.out.1, HR.out.2.2, HR.out.2.1⟩
end Go.Proofs.YtlibflbpajeeeaaDoor
