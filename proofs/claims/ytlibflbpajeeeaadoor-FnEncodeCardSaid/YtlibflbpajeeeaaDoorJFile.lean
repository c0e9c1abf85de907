/- Plain: a picture's file, byte by byte: the head, the scan's bits, the end; both ways to the last byte agree. No program in sight. The contracts of writeMarkerHeader and writeDQT. The contract of writeSOF0. (Joined by wip/gen/merge.py.) -/
import Derived.Test.YtlibflbpajeeeaaDoorJImg
import Derived.Test.YtlibflbpajeeeaaDoorJScaled
import Derived.Test.YtlibflbpajeeeaaDoorJDiv
import Derived.Test.YtlibflbpajeeeaaDoorOut
import Derived.Test.YtlibflbpajeeeaaDoorJEmit
import Derived.Test.YtlibflbpajeeeaaDoorStdPl
import Derived.RegionTactic
import Derived.BigRegion
namespace Go.Proofs.YtlibflbpajeeeaaDoor
open Go.RowKit Go.Sort

def tabL (q : Int) (c : Nat) : List Int := (List.range 64).map fun j => qt q c j
def dqtL (q : Int) : List Int := ((0 : Int) :: tabL q 0) ++ ((1 : Int) :: tabL q 1)
def sofL (gray : Bool) (wd ht : Nat) : List Int := [8, (ht : Int) / 256, (ht : Int) % 256, (wd : Int) / 256, (wd : Int) % 256, if gray then 1 else 3] ++ (if gray then [1, 17, 0] else [1, 34, 0, 2, 17, 1, 3, 17, 1])
def tbB : Nat → Int
  | 0 => 0
  | 1 => 16
  | 2 => 1
  | _ => 17
def hufL (t : Nat) : List Int := tbB t :: (cntL t ++ sgL t)
/-- The codes' bytes of the first n. -/
def dhtN : Nat → List Int
  | 0 => []
  | n + 1 => dhtN n ++ hufL n
def dhtL (gray : Bool) : List Int := dhtN (if gray then 2 else 4)
def sosL (gray : Bool) : List Int := if gray then [1, 1, 0, 0, 63, 0] else [3, 1, 0, 2, 17, 3, 17, 0, 63, 0]
def headL (gray : Bool) (q : Int) (wd ht : Nat) : List Int := [255, 216] ++ segOf 219 (dqtL q) ++ segOf 192 (sofL gray wd ht) ++ segOf 196 (dhtL gray) ++ segOf 218 (sosL gray)

theorem tabL_len (q : Int) (c : Nat) : (tabL q c).length = 64 := by simp [tabL]
theorem dqtL_len (q : Int) : (dqtL q).length = 130 := by simp [dqtL, tabL_len]
theorem dht_len : (dhtN 1).length = 29 ∧ (dhtN 2).length = 208 ∧ (dhtN 3).length = 237 ∧ (dhtN 4).length = 416 := by decide +kernel

/-! The head ahead of the bits. -/
def pre (h : List Int) (s : St) : St := ⟨h ++ s.out, s.acc, s.n⟩
theorem pre_bit (h : List Int) (s : St) (b : Int) : pushBit (pre h s) b = pre h (pushBit s b) := by
  unfold pushBit pre
  simp only
  split
  · rw [List.append_assoc]
  · rfl
theorem pre_bits (h : List Int) (v : Int) : ∀ (k : Nat) (s : St), pushBits (pre h s) v k = pre h (pushBits s v k) := by
  intro k
  induction k with
  | zero => intro s; rfl
  | succ k ih => intro s; simp only [pushBits]; rw [pre_bit, ih]
theorem pre_huff (h : List Int) (s : St) (t c : Nat) : huff (pre h s) t c = pre h (huff s t c) := pre_bits h _ _ _
theorem pre_sym (h : List Int) (s : St) (t c : Nat) (x : Int) (k : Nat) : sym (pre h s) t c x k = pre h (sym s t c x k) := by unfold sym; rw [pre_huff, pre_bits]
theorem pre_zrl (h : List Int) (t : Nat) (s : St) : ∀ j, zrl t (pre h s) j = pre h (zrl t s j) := by
  intro j
  induction j with
  | zero => rfl
  | succ j ih => simp only [zrl]; rw [ih, pre_huff]
theorem pre_acs (h : List Int) (t : Nat) (f : Nat → Int) (s : St) : ∀ k, acs t f (pre h s) k = (pre h (acs t f s k).1, (acs t f s k).2) := by
  intro k
  induction k with
  | zero => rfl
  | succ k ih =>
    simp only [acs]
    rw [ih]
    unfold acStep
    split
    · rfl
    · simp only
      rw [pre_zrl, pre_sym]
theorem pre_block (h : List Int) (s : St) (q : Nat) (last : Int) (f : Nat → Int) : blockOut (pre h s) q last f = pre h (blockOut s q last f) := by
  unfold blockOut
  simp only
  rw [pre_sym, pre_acs]
  simp only
  split
  · rw [pre_huff]
  · rfl
def preS (h : List Int) (a : Sc) : Sc := ⟨pre h a.s, a.l0, a.l1, a.l2⟩
theorem preS_put (h : List Int) (Q : Nat → Nat → Int) (c q : Nat) (d : Array Int) (a : Sc) : putBlk Q c q d (preS h a) = preS h (putBlk Q c q d a) := by
  unfold putBlk
  split
  · simp only [preS]; rw [pre_block]
  · simp only [preS]; rw [pre_block]
  · simp only [preS]; rw [pre_block]
theorem preS_iter (h : List Int) (f : Nat → Sc → Sc) (hf : ∀ n a, f n (preS h a) = preS h (f n a)) : ∀ n a, iter f n (preS h a) = preS h (iter f n a) := by
  intro n
  induction n with
  | zero => intro a; rfl
  | succ n ih => intro a; simp only [iter]; rw [ih, hf]
theorem preS_scan (h : List Int) (step wd ht : Nat) (g : Nat → Nat → Sc → Sc) (hg : ∀ x y a, g x y (preS h a) = preS h (g x y a)) (a : Sc) : scanOf step wd ht g (preS h a) = preS h (scanOf step wd ht g a) := by
  unfold scanOf
  refine preS_iter h _ (fun n a => ?_) _ _
  unfold rowOf
  exact preS_iter h _ (fun n a => hg _ _ a) _ _
theorem preS_gray (h : List Int) (Q : Nat → Nat → Int) (f0 : Nat → Nat → Int) (wd ht x y : Nat) (a : Sc) : mcuGray Q f0 wd ht x y (preS h a) = preS h (mcuGray Q f0 wd ht x y a) := preS_put h Q 0 0 _ a
theorem preS_color (h : List Int) (Q : Nat → Nat → Int) (f0 f1 f2 : Nat → Nat → Int) (wd ht x y : Nat) (a : Sc) : mcuColor Q f0 f1 f2 wd ht x y (preS h a) = preS h (mcuColor Q f0 f1 f2 wd ht x y a) := by
  unfold mcuColor
  rw [preS_iter h (mcuLuma Q f0 wd ht x y) (fun n a => preS_put h Q 0 0 _ a), preS_put, preS_put]

/-! The end. -/
theorem ones7 (s : St) : pushBits s 127 7 = pushBit (pushBit (pushBit (pushBit (pushBit (pushBit (pushBit s 1) 1) 1) 1) 1) 1) 1 := by
  simp only [pushBits]
  rfl
theorem end_eq (s : St) (hs : s.n < 8) : (pushBits s 127 7).out = (fillB 8 s).out := by
  obtain ⟨out, acc, n⟩ := s
  simp only at hs
  rw [ones7]
  match n, hs with
  | 0, _ => rfl
  | 1, _ => rfl
  | 2, _ => rfl
  | 3, _ => rfl
  | 4, _ => rfl
  | 5, _ => rfl
  | 6, _ => rfl
  | 7, _ => rfl

/-- The bits of a picture. -/
def mcu (gray : Bool) (Q : Nat → Nat → Int) (f0 f1 f2 : Nat → Nat → Int) (wd ht : Nat) : Nat → Nat → Sc → Sc := if gray then mcuGray Q f0 wd ht else mcuColor Q f0 f1 f2 wd ht
def bitsOf (gray : Bool) (q : Int) (f0 f1 f2 : Nat → Nat → Int) (wd ht : Nat) : St := (scanOf (if gray then 8 else 16) wd ht (mcu gray (qt q) f0 f1 f2 wd ht) ⟨⟨[], 0, 0⟩, 0, 0, 0⟩).s
def fileOf (gray : Bool) (q : Int) (f0 f1 f2 : Nat → Nat → Int) (wd ht : Nat) : List Int := headL gray q wd ht ++ (fillB 8 (bitsOf gray q f0 f1 f2 wd ht)).out ++ [255, 217]

theorem preS_mcu (h : List Int) (gray : Bool) (Q : Nat → Nat → Int) (f0 f1 f2 : Nat → Nat → Int) (wd ht x y : Nat) (a : Sc) : mcu gray Q f0 f1 f2 wd ht x y (preS h a) = preS h (mcu gray Q f0 f1 f2 wd ht x y a) := by
  unfold mcu
  cases gray
  · exact preS_color h Q f0 f1 f2 wd ht x y a
  · exact preS_gray h Q f0 wd ht x y a

/-- The encoder's way to the bytes. -/
theorem enc_bytes (gray : Bool) (q : Int) (f0 f1 f2 : Nat → Nat → Int) (wd ht : Nat) (h : List Int) (hh : h = headL gray q wd ht) (hn : (bitsOf gray q f0 f1 f2 wd ht).n < 8) :
    (pushBits (scanOf (if gray then 8 else 16) wd ht (mcu gray (qt q) f0 f1 f2 wd ht) ⟨⟨h, 0, 0⟩, 0, 0, 0⟩).s 127 7).out ++ [255, 217] = fileOf gray q f0 f1 f2 wd ht := by
  have e : (⟨⟨h, 0, 0⟩, 0, 0, 0⟩ : Sc) = preS h ⟨⟨[], 0, 0⟩, 0, 0, 0⟩ := by unfold preS pre; simp
  rw [e, preS_scan h _ wd ht _ (preS_mcu h gray (qt q) f0 f1 f2 wd ht)]
  show (pushBits (pre h (bitsOf gray q f0 f1 f2 wd ht)) 127 7).out ++ [255, 217] = _
  rw [pre_bits]
  show (h ++ (pushBits (bitsOf gray q f0 f1 f2 wd ht) 127 7).out) ++ [255, 217] = _
  rw [end_eq _ hn, hh]
  rfl

end Go.Proofs.YtlibflbpajeeeaaDoor

namespace Go.Proofs.YtlibflbpajeeeaaDoor
open Go.RowKit

theorem EncAt.setBuf {w : World} {E Z : Nat} {v : Value} {s : St} (h : EncAt w E Z v s) (j : Nat) (hj : 2 ≤ j ∧ j < 18) (x : Int) : EncAt (w.setCell ⟨E, j, none⟩ (.int .u8 x)) E Z v s ∧ EncStep E Z v v w (w.setCell ⟨E, j, none⟩ (.int .u8 x)) := by
  refine ⟨⟨cell_keep h.w0 (by omega), cell_keep h.er (by omega), fun i hi => ?_, cell_keep h.bi (by omega), cell_keep h.nb (by omega), fun i hi => by rw [World.frozen?_setCell]; exact h.fr i hi, h.z.setCell _ _ h.ne h.vE, h.ok, h.ne, h.vE⟩, EncStep.setE j _ (by omega)⟩
  obtain ⟨y, hy⟩ := h.bu i hi
  by_cases e : 2 + i = j
  · exact ⟨x, by rw [e] at hy ⊢; exact World.cell?_setCell_same _ _ _ hy⟩
  · exact ⟨y, cell_keep hy e⟩

/-- Some bytes at the head of the encoder's scratch. -/
def bufs (w : World) (E : Nat) : Nat → List Int → World
  | _, [] => w
  | i, x :: r => bufs (w.setCell ⟨E, 2 + i, none⟩ (.int .u8 x)) E (i + 1) r
theorem bufs_at (E Z : Nat) (v : Value) (s : St) : ∀ (xs : List Int) (i : Nat) (w : World), EncAt w E Z v s → i + xs.length ≤ 16 → EncAt (bufs w E i xs) E Z v s ∧ EncStep E Z v v w (bufs w E i xs) ∧ (∀ j, j < i → (bufs w E i xs).cell? ⟨E, 2 + j, none⟩ = w.cell? ⟨E, 2 + j, none⟩) ∧ ∀ j u, (xs.map u8v)[j]? = some u → (bufs w E i xs).cell? ⟨E, 2 + i + j, none⟩ = some u := by
  intro xs
  induction xs with
  | nil => intro i w h _; exact ⟨h, EncStep.refl _ _ _ _, fun _ _ => rfl, fun j u hj => by simp at hj⟩
  | cons x r ih =>
    intro i w h hi
    simp only [List.length_cons] at hi
    obtain ⟨h1, h2⟩ := h.setBuf (2 + i) (by omega) x
    obtain ⟨a, b, c, d⟩ := ih (i + 1) _ h1 (by omega)
    refine ⟨a, h2.trans b, fun j hj => ?_, fun j u hj => ?_⟩
    · rw [bufs, c j (by omega), World.cell?_setCell_other _ _ _ _ (by intro e; injection e; omega)]
    · cases j with
      | zero =>
        simp at hj
        subst hj
        rw [Nat.add_zero, bufs, c i (by omega)]
        obtain ⟨y, hy⟩ := h.bu i (by omega)
        exact World.cell?_setCell_same _ _ _ hy
      | succ j =>
        simp only [List.map_cons, List.getElem?_cons_succ] at hj
        have := d j u hj
        rw [show 2 + i + (j + 1) = 2 + (i + 1) + j by omega]
        exact this
theorem bufs_cells {w : World} {E Z : Nat} {v : Value} {s : St} (h : EncAt w E Z v s) (xs : List Int) (hn : xs.length ≤ 16) : ∀ j u, (xs.map u8v)[j]? = some u → (bufs w E 0 xs).cell? ((⟨E, 2, none⟩ : Addr).add j) = some u := by
  intro j u hj
  rw [Addr.add_lit]
  exact (bufs_at E Z v s xs 0 w h (by omega)).2.2.2 j u hj

theorem and255 : ∀ x, x < 1000 → bits BinOp.and IntKind.i64 ((x : Nat) : Int) 255 = (x : Int) % 256 := by decide +kernel

set_option maxRecDepth 100000 in
set_option maxHeartbeats 1000000 in
theorem marker_any (w : World) (E Z : Nat) (v : Value) (s : St) (m : Int) (n : Nat) (h : EncAt w E Z v s) (hl : s.out.length ≤ 1000000) (hn : n < 1000) :
    Calls Tryd.prog 53 #[.pointer (some ⟨E, 0, none⟩), .int .u8 m, .int .i64 n] w (Wrote E Z v w (s.put [255, m, (n : Int) / 256, (n : Int) % 256])) := by
  have hand := and255 n hn
  obtain ⟨y0, hy0⟩ := h.bu 0 (by omega)
  obtain ⟨y1, hy1⟩ := h.bu 1 (by omega)
  obtain ⟨y2, hy2⟩ := h.bu 2 (by omega)
  obtain ⟨y3, hy3⟩ := h.bu 3 (by omega)
  have f0 := h.fr 2 (by omega)
  have f1 := h.fr 3 (by omega)
  have f2 := h.fr 4 (by omega)
  have f3 := h.fr 5 (by omega)
  have hd0 : 0 ≤ (n : Int) / 256 ∧ (n : Int) / 256 < 256 := by omega
  have hd1 : 0 ≤ (n : Int) % 256 ∧ (n : Int) % 256 < 256 := by omega
  have hb := bufs_at E Z v s [255, m, (n : Int) / 256, (n : Int) % 256] 0 w h (by simp)
  have hc := bufs_cells h [255, m, (n : Int) / 256, (n : Int) % 256] (by simp)
  have hw : bufs w E 0 [255, m, (n : Int) / 256, (n : Int) % 256] = (((w.setCell ⟨E, 2, none⟩ (.int .u8 255)).setCell ⟨E, 3, none⟩ (.int .u8 m)).setCell ⟨E, 4, none⟩ (.int .u8 ((n : Int) / 256))).setCell ⟨E, 5, none⟩ (.int .u8 ((n : Int) % 256)) := rfl
  rw [hw] at hb hc
  have HB := Lib.hid hb
  have HC := Lib.hid hc
  clear h hb hc hw
  go_enter Tryd.func53, Tryd.ntmps53
  go_wp2_with fail
  refine (write_any _ E Z v s [255, m, (n : Int) / 256, (n : Int) % 256] ⟨E, 2, none⟩ 4 16 HB.out.1 (by omega) (by omega) (by omega) rfl HC.out).mono ?_
  rintro e w2 ⟨rfl, v2, h2, k2⟩
  have H2 := Lib.hid h2
  have K2 := Lib.hid (HB.out.2.1.trans k2)
  clear h2 k2
  go_wp2_with fail
  go_end0
  exact ⟨rfl, v2, H2.out, K2.out⟩

/-- The bytes of the tables. -/
def dqtP (q : Int) : Nat → List Int
  | 0 => []
  | k + 1 => dqtP q k ++ ((k : Int) :: tabL q k)
theorem dqtP_all (q : Int) : dqtP q 2 = dqtL q := by simp [dqtP, dqtL]
theorem dqtP_len (q : Int) : ∀ k, (dqtP q k).length = 65 * k := by
  intro k
  induction k with
  | zero => rfl
  | succ k ih => simp [dqtP, ih, tabL_len]; omega
theorem put_put (s : St) (xs ys : List Int) : (s.put xs).put ys = s.put (xs ++ ys) := by unfold St.put; simp

set_option maxRecDepth 100000 in
set_option maxHeartbeats 1000000 in
theorem dqt_any (w : World) (E Z : Nat) (v : Value) (s : St) (q : Int) (h : EncAt w E Z v s) (hq : ∀ c, c < 2 → ∀ j, j < 64 → w.cell? ⟨E, 20 + (64 * c + j), none⟩ = some (.int .u8 (qt q c j))) (hl : s.out.length ≤ 100000) :
    Calls Tryd.prog 42 #[.pointer (some ⟨E, 0, none⟩)] w (Wrote E Z v w (s.put (segOf 219 (dqtL q)))) := by
  have H := Lib.hid h
  have HQ := Lib.hid hq
  clear h hq
  go_enter Tryd.func42, Tryd.ntmps42
  go_wp2_with fail
  refine (marker_any w E Z v s 219 132 H.out (by omega) (by omega)).mono ?_
  rintro e w1 ⟨rfl, v1, h1, k1⟩
  have H1 := Lib.hid h1
  have K1 := Lib.hid k1
  clear h1 k1
  go_wp2_with fail
  go_loopw [2, 5] (fun _ kv wr => ∃ (k : Nat) (v' : Value), k ≤ 2 ∧ kv = .int .i64 k ∧ EncAt wr E Z v' (s.put ([255, 219, 0, 132] ++ dqtP q k)) ∧ EncStep E Z v v' w wr) (fun _ kv _ => 2 - (intOf kv).toNat)
  case atStart => exact ⟨0, v1, by omega, rfl, by have := H1.out; simpa [dqtP] using this, K1.out⟩
  case round =>
    obtain ⟨k, v2, hk, rfl, h2, k2⟩ := hrel
    have H2 := Lib.hid h2
    have K2 := Lib.hid k2
    have hlen := dqtP_len q k
    clear h2 k2
    by_cases hk2 : k < 2
    · have hbl : (s.put ([255, 219, 0, 132] ++ dqtP q k)).out.length ≤ 1000000 := by simp [St.put, hlen]; omega
      go_wp2_with fail
      refine (writeByte_any wr E Z v2 _ (k : Int) H2.out (by omega)).mono ?_
      rintro e w3 ⟨rfl, v3, h3, k3⟩
      have hcells : ∀ j u, ((tabL q k).map u8v)[j]? = some u → w3.cell? ((⟨E, 20 + k * 64, none⟩ : Addr).add j) = some u := by
        intro j u hj
        have hj64 : j < 64 := by
          rcases Nat.lt_or_ge j 64 with h | h
          · exact h
          · rw [List.getElem?_eq_none (by simp [tabL_len]; omega)] at hj; cases hj
        simp [tabL, hj64] at hj
        subst hj
        rw [Addr.add_lit, k3.ec _ (by omega), K2.out.ec _ (by omega)]
        have := HQ.out k hk2 j hj64
        rw [show 20 + k * 64 + j = 20 + (64 * k + j) by omega]
        exact this
      have H3 := Lib.hid h3
      have K3 := Lib.hid (K2.out.trans k3)
      have HC := Lib.hid hcells
      clear h3 k3 hcells
      go_wp2_with fail
      refine (write_any w3 E Z v3 _ (tabL q k) ⟨E, 20 + k * 64, none⟩ 64 64 H3.out (by simp [St.put, hlen]; omega) (by omega) (by omega) (tabL_len q k) HC.out).mono ?_
      rintro e w4 ⟨rfl, v4, h4, k4⟩
      have H4 := Lib.hid h4
      have K4 := Lib.hid (K3.out.trans k4)
      clear h4 k4
      go_wp2_with fail
      go_roundw
      case rel =>
        refine ⟨k + 1, v4, by omega, by go_num, ?_, K4.out⟩
        have := H4.out
        rw [put_put, put_put] at this
        have e : [255, 219, 0, 132] ++ dqtP q k ++ ([(k : Int)] ++ tabL q k) = [255, 219, 0, 132] ++ dqtP q (k + 1) := by simp [dqtP]
        rw [e] at this
        exact this
      case measure => simp [intOf]; omega
    · obtain rfl : k = 2 := by omega
      go_wp2_with fail
      go_end0
      refine ⟨rfl, v2, ?_, K2.out⟩
      have := H2.out
      rw [dqtP_all] at this
      have e : segOf 219 (dqtL q) = [255, 219, 0, 132] ++ dqtL q := by unfold segOf; rw [dqtL_len]; rfl
      rw [e]
      exact this
end Go.Proofs.YtlibflbpajeeeaaDoor

namespace Go.Proofs.YtlibflbpajeeeaaDoor
open Go.RowKit

/-- So many bytes of a list stand in the encoder's scratch. -/
structure BufRel (w1 : World) (E Z : Nat) (v : Value) (s : St) (xs : List Int) (n : Nat) (wr : World) : Prop where
  e : EncAt wr E Z v s
  k : EncStep E Z v v w1 wr
  c : ∀ j, j < n → wr.cell? ⟨E, 2 + j, none⟩ = some (.int .u8 (xs.getD j 0))
theorem BufRel.start {w1 : World} {E Z : Nat} {v : Value} {s : St} (xs : List Int) (h : EncAt w1 E Z v s) : BufRel w1 E Z v s xs 0 w1 := ⟨h, EncStep.refl _ _ _ _, fun j hj => by omega⟩
theorem BufRel.drew {w1 wr : World} {E Z : Nat} {v : Value} {s : St} {xs : List Int} {n : Nat} (h : BufRel w1 E Z v s xs n wr) (q : Nat) : BufRel w1 E Z v s xs n (wr.drewN q) := ⟨h.e.drew q, h.k.trans (EncStep.drew E Z v wr q), h.c⟩
theorem BufRel.drew1 {w1 wr : World} {E Z : Nat} {v : Value} {s : St} {xs : List Int} {n : Nat} (h : BufRel w1 E Z v s xs n wr) : BufRel w1 E Z v s xs n wr.drew := h.drew 1
theorem BufRel.set {w1 wr : World} {E Z : Nat} {v : Value} {s : St} {xs : List Int} {n : Nat} (h : BufRel w1 E Z v s xs n wr) (hn : n < 16) (x : Int) (hx : xs.getD n 0 = x) : BufRel w1 E Z v s xs (n + 1) (wr.setCell ⟨E, 2 + n, none⟩ (.int .u8 x)) := by
  obtain ⟨h1, h2⟩ := h.e.setBuf (2 + n) (by omega) x
  refine ⟨h1, h.k.trans h2, fun j hj => ?_⟩
  by_cases e : j = n
  · subst e
    obtain ⟨y, hy⟩ := h.e.bu j hn
    rw [hx]
    exact World.cell?_setCell_same _ _ _ hy
  · rw [World.cell?_setCell_other _ _ _ _ (by intro e'; injection e'; omega)]
    exact h.c j (by omega)
theorem BufRel.cells {w1 wr : World} {E Z : Nat} {v : Value} {s : St} {xs : List Int} (h : BufRel w1 E Z v s xs xs.length wr) : ∀ j u, (xs.map u8v)[j]? = some u → wr.cell? ((⟨E, 2, none⟩ : Addr).add j) = some u := by
  intro j u hj
  have hjn : j < xs.length := by
    rcases Nat.lt_or_ge j xs.length with h | h
    · exact h
    · rw [List.getElem?_eq_none (by simpa using h)] at hj; cases hj
  rw [Addr.add_lit, h.c j hjn]
  rw [List.getElem?_map, List.getElem?_eq_getElem hjn] at hj
  rw [List.getD_eq_getElem?_getD, List.getElem?_eq_getElem hjn]
  exact hj

set_option maxRecDepth 100000 in
set_option maxHeartbeats 2000000 in
theorem sofGray_any (w : World) (E Z : Nat) (v : Value) (s : St) (wd ht : Nat) (h : EncAt w E Z v s) (hd : wd ≤ 100 ∧ ht ≤ 100) (hl : s.out.length ≤ 100000) :
    Calls Tryd.prog 43 #[.pointer (some ⟨E, 0, none⟩), .agg #[.int .i64 wd, .int .i64 ht], .int .i64 1] w (Wrote E Z v w (s.put (segOf 192 (sofL true wd ht)))) := by
  have H := Lib.hid h
  have ha := and255 wd (by omega)
  have hb := and255 ht (by omega)
  obtain ⟨hd1, hd2⟩ := hd
  clear h
  go_enter Tryd.func43, Tryd.ntmps43
  go_wp2_with fail
  refine (marker_any _ E Z v s 192 11 (H.out.alloc _) (by omega) (by omega)).mono ?_
  rintro e w1 ⟨rfl, v1, h1, k1⟩
  obtain ⟨y0, hy0⟩ := h1.bu 0 (by omega)
  obtain ⟨y1, hy1⟩ := h1.bu 1 (by omega)
  obtain ⟨y2, hy2⟩ := h1.bu 2 (by omega)
  obtain ⟨y3, hy3⟩ := h1.bu 3 (by omega)
  obtain ⟨y4, hy4⟩ := h1.bu 4 (by omega)
  obtain ⟨y5, hy5⟩ := h1.bu 5 (by omega)
  obtain ⟨y6, hy6⟩ := h1.bu 6 (by omega)
  obtain ⟨y7, hy7⟩ := h1.bu 7 (by omega)
  obtain ⟨y8, hy8⟩ := h1.bu 8 (by omega)
  have f0 := h1.fr 2 (by omega)
  have f1 := h1.fr 3 (by omega)
  have f2 := h1.fr 4 (by omega)
  have f3 := h1.fr 5 (by omega)
  have f4 := h1.fr 6 (by omega)
  have f5 := h1.fr 7 (by omega)
  have f6 := h1.fr 8 (by omega)
  have f7 := h1.fr 9 (by omega)
  have f8 := h1.fr 10 (by omega)
  have hP : (w.alloc (.cells #[.int .i64 wd, .int .i64 ht] 86)).heap[w.heap.size]? = some (.cells #[.int .i64 wd, .int .i64 ht] 86 (0, 0)) := heap_alloc_new _ _
  have hnE : w.heap.size ∉ [E, Z] := by have := H.out.ltE; have := H.out.ltZ; simp; omega
  have hnv : v.ownBlock ≠ some w.heap.size := fun e => by have := H.out.z.row.lt e; omega
  have hPb := (k1.k.block w.heap.size (by simp) hnE hnv).trans hP
  have hp0 : w1.cell? ⟨w.heap.size, 0, none⟩ = some (.int .i64 wd) := by rw [cell_of_row _ _ _ _ _ _ hPb]; rfl
  have hp1 : w1.cell? ⟨w.heap.size, 1, none⟩ = some (.int .i64 ht) := by rw [cell_of_row _ _ _ _ _ _ hPb]; rfl
  have hne : w.heap.size ≠ E := by have := H.out.ltE; omega
  have H1 := Lib.hid h1
  have K1 := Lib.hid ((EncStep.alloc E Z v w _ H.out.ltE).trans k1)
  clear h1 k1 hP hPb
  go_wp2_with fail
  go_region
  go_wp2_with fail
  go_region
  go_wp2_with fail
  go_region
  go_wp2_with fail
  go_region
  go_wp2_with fail
  have hrel : BufRel w1 E Z v1 (s.put [255, 192, 0, 11]) (sofL true wd ht) 9 (((((((((w1.setCell ⟨E, 2, none⟩ (.int .u8 8)).setCell ⟨E, 3, none⟩ (.int .u8 ((ht : Int) / 256))).setCell ⟨E, 4, none⟩ (.int .u8 ((ht : Int) % 256))).setCell ⟨E, 5, none⟩ (.int .u8 ((wd : Int) / 256))).setCell ⟨E, 6, none⟩ (.int .u8 ((wd : Int) % 256))).setCell ⟨E, 7, none⟩ (.int .u8 1)).setCell ⟨E, 8, none⟩ (.int .u8 1)).setCell ⟨E, 9, none⟩ (.int .u8 17)).setCell ⟨E, 10, none⟩ (.int .u8 0)).drew.drew.drew.drew :=
    ((((((((((((((BufRel.start (sofL true wd ht) H1.out).set (by omega) 8 rfl).set (by omega) ((ht : Int) / 256) rfl).set (by omega) ((ht : Int) % 256) rfl).set (by omega) ((wd : Int) / 256) rfl).set (by omega) ((wd : Int) % 256) rfl).set (by omega) 1 rfl).set (by omega) 1 rfl).set (by omega) 17 rfl).set (by omega) 0 rfl).drew1).drew1).drew1).drew1)
  generalize (((((((((w1.setCell ⟨E, 2, none⟩ (.int .u8 8)).setCell ⟨E, 3, none⟩ (.int .u8 ((ht : Int) / 256))).setCell ⟨E, 4, none⟩ (.int .u8 ((ht : Int) % 256))).setCell ⟨E, 5, none⟩ (.int .u8 ((wd : Int) / 256))).setCell ⟨E, 6, none⟩ (.int .u8 ((wd : Int) % 256))).setCell ⟨E, 7, none⟩ (.int .u8 1)).setCell ⟨E, 8, none⟩ (.int .u8 1)).setCell ⟨E, 9, none⟩ (.int .u8 17)).setCell ⟨E, 10, none⟩ (.int .u8 0)).drew.drew.drew.drew = W2 at hrel ⊢
  have HR := Lib.hid hrel
  clear hrel hy0 hy1 hy2 hy3 hy4 hy5 hy6 hy7 hy8 f0 f1 f2 f3 f4 f5 f6 f7 f8 hp0 hp1
  refine (write_any W2 E Z v1 _ (sofL true wd ht) ⟨E, 2, none⟩ 9 16 HR.out.e (by simp [St.put]; omega) (by omega) (by omega) rfl (BufRel.cells HR.out)).mono ?_
  rintro e w2 ⟨rfl, v2, h2, k2⟩
  have H2 := Lib.hid h2
  have K2 := Lib.hid ((K1.out.trans HR.out.k).trans k2)
  clear h2 k2
  go_wp2_with fail
  go_end0
  refine ⟨rfl, v2, ?_, K2.out⟩
  have := H2.out
  rw [put_put] at this
  rw [show segOf 192 (sofL true wd ht) = [255, 192, 0, 11] ++ sofL true wd ht by unfold segOf; rw [show (sofL true wd ht).length = 9 from rfl]; rfl]
  exact this

theorem sx_at : ∀ n, (hn : n < 3) → ((⟨#[34, 17, 17]⟩ : ByteArray)[n]'hn).toNat = [34, 17, 17].getD n 0 := by decide +kernel
theorem sy_at : ∀ n, (hn : n < 3) → ((⟨#[0, 1, 1]⟩ : ByteArray)[n]'hn).toNat = [0, 1, 1].getD n 0 := by decide +kernel
theorem idxX (n : Nat) (hn : n < 3) (w : World) : (Instr.index 9 (.string ⟨#[34, 17, 17]⟩) (.int .i64 (n : Int))).run Tryd.prog w = .ok (.int .u8 (([34, 17, 17].getD n 0 : Nat) : Int)) w := by
  have h := run_index_string (P := Tryd.prog) (w := w) 9 ⟨#[34, 17, 17]⟩ .i64 (n : Int) Tryd.underlying9
  rw [dif_pos ⟨by omega, by show (n : Int) < 3; omega⟩] at h
  rw [← sx_at n hn]
  exact h
theorem idxY (n : Nat) (hn : n < 3) (w : World) : (Instr.index 9 (.string ⟨#[0, 1, 1]⟩) (.int .i64 (n : Int))).run Tryd.prog w = .ok (.int .u8 (([0, 1, 1].getD n 0 : Nat) : Int)) w := by
  have h := run_index_string (P := Tryd.prog) (w := w) 9 ⟨#[0, 1, 1]⟩ .i64 (n : Int) Tryd.underlying9
  rw [dif_pos ⟨by omega, by show (n : Int) < 3; omega⟩] at h
  rw [← sy_at n hn]
  exact h
theorem sof_three (wd ht : Nat) : ∀ i, i < 3 → (sofL false wd ht).getD (3 * i + 6) 0 = (i : Int) + 1 ∧ (sofL false wd ht).getD (3 * i + 7) 0 = (([34, 17, 17].getD i 0 : Nat) : Int) ∧ (sofL false wd ht).getD (3 * i + 8) 0 = (([0, 1, 1].getD i 0 : Nat) : Int) := by
  intro i hi
  match i, hi with
  | 0, _ => exact ⟨rfl, rfl, rfl⟩
  | 1, _ => exact ⟨rfl, rfl, rfl⟩
  | 2, _ => exact ⟨rfl, rfl, rfl⟩

set_option maxRecDepth 100000 in
set_option maxHeartbeats 2000000 in
theorem sofColor_any (w : World) (E Z : Nat) (v : Value) (s : St) (wd ht : Nat) (h : EncAt w E Z v s) (hd : wd ≤ 100 ∧ ht ≤ 100) (hl : s.out.length ≤ 100000) :
    Calls Tryd.prog 43 #[.pointer (some ⟨E, 0, none⟩), .agg #[.int .i64 wd, .int .i64 ht], .int .i64 3] w (Wrote E Z v w (s.put (segOf 192 (sofL false wd ht)))) := by
  have H := Lib.hid h
  have ha := and255 wd (by omega)
  have hb := and255 ht (by omega)
  obtain ⟨hd1, hd2⟩ := hd
  clear h
  go_enter Tryd.func43, Tryd.ntmps43
  go_wp2_with fail
  refine (marker_any _ E Z v s 192 17 (H.out.alloc _) (by omega) (by omega)).mono ?_
  rintro e w1 ⟨rfl, v1, h1, k1⟩
  obtain ⟨y0, hy0⟩ := h1.bu 0 (by omega)
  obtain ⟨y1, hy1⟩ := h1.bu 1 (by omega)
  obtain ⟨y2, hy2⟩ := h1.bu 2 (by omega)
  obtain ⟨y3, hy3⟩ := h1.bu 3 (by omega)
  obtain ⟨y4, hy4⟩ := h1.bu 4 (by omega)
  obtain ⟨y5, hy5⟩ := h1.bu 5 (by omega)
  have f0 := h1.fr 2 (by omega)
  have f1 := h1.fr 3 (by omega)
  have f2 := h1.fr 4 (by omega)
  have f3 := h1.fr 5 (by omega)
  have f4 := h1.fr 6 (by omega)
  have f5 := h1.fr 7 (by omega)
  have hP : (w.alloc (.cells #[.int .i64 wd, .int .i64 ht] 86)).heap[w.heap.size]? = some (.cells #[.int .i64 wd, .int .i64 ht] 86 (0, 0)) := heap_alloc_new _ _
  have hnE : w.heap.size ∉ [E, Z] := by have := H.out.ltE; have := H.out.ltZ; simp; omega
  have hnv : v.ownBlock ≠ some w.heap.size := fun e => by have := H.out.z.row.lt e; omega
  have hPb := (k1.k.block w.heap.size (by simp) hnE hnv).trans hP
  have hp0 : w1.cell? ⟨w.heap.size, 0, none⟩ = some (.int .i64 wd) := by rw [cell_of_row _ _ _ _ _ _ hPb]; rfl
  have hp1 : w1.cell? ⟨w.heap.size, 1, none⟩ = some (.int .i64 ht) := by rw [cell_of_row _ _ _ _ _ _ hPb]; rfl
  have hne : w.heap.size ≠ E := by have := H.out.ltE; omega
  have H1 := Lib.hid h1
  have K1 := Lib.hid ((EncStep.alloc E Z v w _ H.out.ltE).trans k1)
  clear h1 k1 hP hPb
  go_wp2_with fail
  go_region
  go_wp2_with fail
  go_region
  go_wp2_with fail
  go_region
  go_wp2_with fail
  go_region
  go_wp2_with fail
  have hrel : BufRel w1 E Z v1 (s.put [255, 192, 0, 17]) (sofL false wd ht) 6 ((((((w1.setCell ⟨E, 2, none⟩ (.int .u8 8)).setCell ⟨E, 3, none⟩ (.int .u8 ((ht : Int) / 256))).setCell ⟨E, 4, none⟩ (.int .u8 ((ht : Int) % 256))).setCell ⟨E, 5, none⟩ (.int .u8 ((wd : Int) / 256))).setCell ⟨E, 6, none⟩ (.int .u8 ((wd : Int) % 256))).setCell ⟨E, 7, none⟩ (.int .u8 3)).drew.drew.drew.drew :=
    (((((((((((BufRel.start (sofL false wd ht) H1.out).set (by omega) 8 rfl).set (by omega) ((ht : Int) / 256) rfl).set (by omega) ((ht : Int) % 256) rfl).set (by omega) ((wd : Int) / 256) rfl).set (by omega) ((wd : Int) % 256) rfl).set (by omega) 3 rfl).drew1).drew1).drew1).drew1)
  generalize ((((((w1.setCell ⟨E, 2, none⟩ (.int .u8 8)).setCell ⟨E, 3, none⟩ (.int .u8 ((ht : Int) / 256))).setCell ⟨E, 4, none⟩ (.int .u8 ((ht : Int) % 256))).setCell ⟨E, 5, none⟩ (.int .u8 ((wd : Int) / 256))).setCell ⟨E, 6, none⟩ (.int .u8 ((wd : Int) % 256))).setCell ⟨E, 7, none⟩ (.int .u8 3)).drew.drew.drew.drew = W2 at hrel ⊢
  have HR := Lib.hid hrel
  clear hrel hy0 hy1 hy2 hy3 hy4 hy5 f0 f1 f2 f3 f4 f5 hp0 hp1
  go_loopw [7] (fun iv wr => ∃ i : Nat, i ≤ 3 ∧ iv = .int .i64 i ∧ BufRel w1 E Z v1 (s.put [255, 192, 0, 17]) (sofL false wd ht) (3 * i + 6) wr) (fun iv _ => 3 - (intOf iv).toNat)
  case atStart => exact ⟨0, by omega, rfl, HR.out⟩
  case round =>
    obtain ⟨i, hi, rfl, hb⟩ := hrel
    by_cases hi3 : i < 3
    · obtain ⟨z0, hz0⟩ := hb.e.bu (3 * i + 6) (by omega)
      obtain ⟨z1, hz1⟩ := hb.e.bu (3 * i + 7) (by omega)
      obtain ⟨z2, hz2⟩ := hb.e.bu (3 * i + 8) (by omega)
      have g0 := hb.e.fr (2 + (3 * i + 6)) (by omega)
      have g1 := hb.e.fr (2 + (3 * i + 7)) (by omega)
      have g2 := hb.e.fr (2 + (3 * i + 8)) (by omega)
      have n0 : (3 * (i : Int) + 6).toNat = 3 * i + 6 := by omega
      have n1 : (3 * (i : Int) + 7).toNat = 3 * i + 7 := by omega
      have n2 : (3 * (i : Int) + 8).toNat = 3 * i + 8 := by omega
      have m0 : (0 : Int) ≤ 3 * (i : Int) + 6 ∧ 3 * (i : Int) + 6 < 16 := by omega
      have m1 : (0 : Int) ≤ 3 * (i : Int) + 7 ∧ 3 * (i : Int) + 7 < 16 := by omega
      have m2 : (0 : Int) ≤ 3 * (i : Int) + 8 ∧ 3 * (i : Int) + 8 < 16 := by omega
      obtain ⟨t0, t1, t2⟩ := sof_three wd ht i hi3
      have hx := idxX i hi3
      have hy := idxY i hi3
      have hxb : [34, 17, 17].getD i 0 < 256 := by match i, hi3 with | 0, _ => decide | 1, _ => decide | 2, _ => decide
      obtain ⟨a, ha'⟩ : ∃ a, a = [34, 17, 17].getD i 0 := ⟨_, rfl⟩
      obtain ⟨b, hb'⟩ : ∃ a, a = [0, 1, 1].getD i 0 := ⟨_, rfl⟩
      rw [← ha'] at t1 hx hxb
      rw [← hb'] at t2 hy
      have HB := Lib.hid hb
      have T := Lib.hid (And.intro t0 (And.intro t1 t2))
      clear hb t0 t1 t2 ha' hb'
      go_wp2_with fail
      go_region
      go_wp2_with fail
      go_region
      go_wp2_with fail
      go_roundw
      case rel =>
        refine ⟨i + 1, by omega, by go_num, ?_⟩
        exact (((((HB.out.set (by omega) ((i : Int) + 1) T.out.1).set (by omega) (a : Int) T.out.2.1).set (by omega) (b : Int) T.out.2.2).drew1).drew1)
      case measure => simp [intOf]; omega
    · obtain rfl : i = 3 := by omega
      have HB := Lib.hid hb
      clear hb HR
      go_wp2_with fail
      refine (write_any wr E Z v1 _ (sofL false wd ht) ⟨E, 2, none⟩ 15 16 HB.out.e (by simp [St.put]; omega) (by omega) (by omega) rfl (BufRel.cells HB.out)).mono ?_
      rintro e w2 ⟨rfl, v2, h2, k2⟩
      have H2 := Lib.hid h2
      have K2 := Lib.hid ((K1.out.trans HB.out.k).trans k2)
      clear h2 k2
      go_wp2_with fail
      go_end0
      refine ⟨rfl, v2, ?_, K2.out⟩
      have := H2.out
      rw [put_put] at this
      rw [show segOf 192 (sofL false wd ht) = [255, 192, 0, 17] ++ sofL false wd ht by unfold segOf; rw [show (sofL false wd ht).length = 15 from rfl]; rfl]
      exact this

end Go.Proofs.YtlibflbpajeeeaaDoor
