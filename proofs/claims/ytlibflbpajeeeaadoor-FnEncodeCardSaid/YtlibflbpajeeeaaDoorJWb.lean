/- The contract of writeBlock: a block is transformed, divided by its table, and its bits are written. Plain: what a block of numbers from 0 to 255 comes to: its first quantized number from -1024 to 1020, the others of at most ten bits. (Joined by wip/gen/merge.py.) -/
import Derived.Test.YtlibflbpajeeeaaDoorJEmit
import Derived.Test.YtlibflbpajeeeaaDoorJBlk
import Derived.Test.YtlibflbpajeeeaaDoorMix
import Derived.Deep.QuietTactic
import Derived.BigQuiet
import Derived.Test.YtlibflbpajeeeaaDoorJPl
namespace Go.Proofs.YtlibflbpajeeeaaDoor
open Go.RowKit Go.Sort

theorem OnlyB.putRow (w : World) (B : Nat) (d : Array Int) : OnlyB B w (putRow i32v w B 0 d) := by
  refine ⟨rfl, rfl, rfl, by simp [Go.Sort.putRow, mapBlock], fun k hk => ?_⟩
  show (w.heap.modify B _)[k]? = _
  rw [Array.getElem?_modify, if_neg (fun e => hk e.symm)]

theorem EncAt.other {w w' : World} {E Z B : Nat} {v : Value} {s : St} (h : EncAt w E Z v s) (ho : OnlyB B w w') (h1 : B ≠ E) (h2 : B ≠ Z) (h3 : v.ownBlock ≠ some B) : EncAt w' E Z v s := by
  have hc : ∀ j, w'.cell? ⟨E, j, none⟩ = w.cell? ⟨E, j, none⟩ := fun j => ho.cell (by show E ≠ B; omega)
  have hz : w'.heap[Z]? = w.heap[Z]? := ho.block Z (by omega)
  refine ⟨(hc 0).trans h.w0, (hc 1).trans h.er, fun j hj => ?_, (hc 18).trans h.bi, (hc 19).trans h.nb, fun j hj => (ho.frozen (by show E ≠ B; omega)).trans (h.fr j hj), ⟨?_, ?_, ?_, h.z.ne⟩, h.ok, h.ne, h.vE⟩
  · obtain ⟨x, hx⟩ := h.bu j hj; exact ⟨x, (hc _).trans hx⟩
  · exact (World.cell?_of_block (a := ⟨Z, 0, none⟩) hz).trans h.z.zc
  · exact (World.frozen?_of_block (a := ⟨Z, 0, none⟩) hz).trans h.z.zf
  · exact h.z.row.same fun g hg => ho.block g (fun e => h3 (by rw [← e]; exact hg))
theorem Step2.only {E Z B : Nat} {Bs : List Nat} {v : Value} {w w' : World} (ho : OnlyB B w w') (hB : B ∈ Bs) (hne : B ≠ E) : Step2 E Z Bs v v w w' :=
  ⟨⟨ho.os, ho.tape, ho.output, Nat.le_of_eq ho.size.symm, fun k _ hk _ => ho.block k (fun e => hk (by simp [e, hB])), fun _ h => .inl h⟩, fun _ _ => ho.cell (by show E ≠ B; omega), fun _ => ho.frozen (by show E ≠ B; omega)⟩

/-- The forward transform of a block. -/
def fwd (d : Array Int) : Array Int := frowsA (fcolsA d)
/-- A block's quantized numbers, in zigzag order. -/
def quantd (Q : Nat → Int) (d : Array Int) (j : Nat) : Int := rnd (fwd d)[zzAt j]! (8 * Q j)

theorem fwd_size (d : Array Int) (h : d.size = 64) : (fwd d).size = 64 := by unfold fwd frowsA fcolsA; rw [size_steps, size_steps, h]

theorem div_same (a b : Int) (w : World) (ha0 : -1000000000 ≤ a) (ha1 : a ≤ 1000000000) (hb0 : 1 ≤ b) (hb1 : b ≤ 1000000000) :
    Calls Tryd.prog 68 #[.int .i32 a, .int .i32 b] w fun e w' => e = .returned (.int .i32 (rnd a b)) ∧ w' = w := (div_any a b w ha0 ha1 hb0 hb1).mono fun _ _ ⟨h1, h2⟩ => ⟨h1, h2.symm⟩

structure BlockFits (d : Array Int) (Qq : Nat → Int) (last : Int) : Prop where
  size : d.size = 64
  bound : ∀ j, j < 64 → (-8192 : Int) ≤ (fwd d)[j]! ∧ (fwd d)[j]! ≤ (8191 : Int)
  q : ∀ j, j < 64 → 1 ≤ Qq j ∧ Qq j ≤ 255
  dc : (quantd Qq d 0 - last).natAbs < 2048
  last : last.natAbs ≤ 4096
  ac : ∀ j, 1 ≤ j → j < 64 → (quantd Qq d j).natAbs < 1024

/-- What stands while the block's numbers are read: their cells, and what their division gives. -/
structure Reads (w : World) (E Z B : Nat) (v : Value) (Bs : List Nat) (Q : Nat → Nat → Int) (q : Nat) (c f : Nat → Int) : Prop where
  cell : ∀ j, j < 64 → w.cell? ⟨B, zzAt j, none⟩ = some (.int .i32 (c j))
  fix : Fix w E Z v Bs Q
  BE : B ≠ E
  BZ : B ≠ Z
  lt : B < w.heap.size
  Bv : v.ownBlock ≠ some B
theorem Reads.step {w w' : World} {E Z B : Nat} {v v' : Value} {Bs : List Nat} {Q : Nat → Nat → Int} {q : Nat} {c f : Nat → Int} (h : Reads w E Z B v Bs Q q c f) (k : EncStep E Z v v' w w') : Reads w' E Z B v' Bs Q q c f := by
  have hb : B ∉ [E, Z] := by simp [h.BE, h.BZ]
  refine ⟨fun j hj => (k.k.cell (x := ⟨B, zzAt j, none⟩) h.lt hb h.Bv).trans (h.cell j hj), h.fix.step (k.to Bs), h.BE, h.BZ, Nat.lt_of_lt_of_le h.lt k.k.size, fun e => ?_⟩
  rcases k.k.own B e with h1 | h1
  · exact h.Bv h1
  · have := h.lt; omega

structure Divs (Q : Nat → Nat → Int) (q : Nat) (last : Int) (c f : Nat → Int) : Prop where
  qs : ∀ j, j < 64 → 1 ≤ Q q j ∧ Q q j ≤ 255
  div : ∀ j, j < 64 → ∀ u, Calls Tryd.prog 68 #[.int .i32 (c j), .int .i32 (8 * Q q j)] u fun e w' => e = .returned (.int .i32 (f j)) ∧ w' = u
  dc : (f 0 - last).natAbs < 2048
  last : last.natAbs ≤ 4096
  ac : ∀ j, 1 ≤ j → j < 64 → (f j).natAbs < 1024

def WbPost (E Z : Nat) (v : Value) (w1 : World) (s : St) (q : Nat) (last : Int) (f : Nat → Int) (e : Ending) (w' : World) : Prop :=
  e = .returned (.int .i32 (f 0)) ∧ ∃ v', EncAt w' E Z v' (blockOut s q last f) ∧ EncStep E Z v v' w1 w'

theorem Reads.drew {w : World} {E Z B : Nat} {v : Value} {Bs : List Nat} {Q : Nat → Nat → Int} {q : Nat} {c f : Nat → Int} (h : Reads w E Z B v Bs Q q c f) (n : Nat) : Reads (w.drewN n) E Z B v Bs Q q c f := h.step (EncStep.drew E Z v w n)

/-- The calls of writeBlock, in the walk's own spelling. -/
structure WbCalls (E Z : Nat) (Bs : List Nat) (Q : Nat → Nat → Int) (q : Nat) (last f0 : Int) : Prop where
  dc : ∀ u v s, EncAt u E Z v s → Fix u E Z v Bs Q → s.out.length ≤ 80000000 → Calls Tryd.prog 69 #[.pointer (some ⟨E, 0, none⟩), .int .i64 (2 * q), .int .i32 0, .int .i32 (f0 - last)] u (Wrote E Z v u (sym s (2 * q) (size (f0 - last)) (coded (f0 - last)) (size (f0 - last))))
  zrl : ∀ u v s, EncAt u E Z v s → Fix u E Z v Bs Q → s.out.length ≤ 80000000 → Calls Tryd.prog 70 #[.pointer (some ⟨E, 0, none⟩), .int .i64 (2 * q + 1), .int .i32 240] u (Wrote E Z v u (huff s (2 * q + 1) 240))
  eob : ∀ u v s, EncAt u E Z v s → Fix u E Z v Bs Q → s.out.length ≤ 80000000 → Calls Tryd.prog 70 #[.pointer (some ⟨E, 0, none⟩), .int .i64 (2 * q + 1), .int .i32 0] u (Wrote E Z v u (huff s (2 * q + 1) 0))
  ac : ∀ u v s (m : Nat) (x : Int), EncAt u E Z v s → Fix u E Z v Bs Q → s.out.length ≤ 80000000 → m < 16 → x.natAbs < 1024 →
    Calls Tryd.prog 69 #[.pointer (some ⟨E, 0, none⟩), .int .i64 (2 * q + 1), .int .i32 m, .int .i32 x] u (Wrote E Z v u (sym s (2 * q + 1) (m * 16 + size x) (coded x) (size x)))

theorem wbCalls (E Z : Nat) (Bs : List Nat) (Q : Nat → Nat → Int) (q : Nat) (hq : q < 2) (last f0 : Int) (h0 : (f0 - last).natAbs < 2048) : WbCalls E Z Bs Q q last f0 := by
  have e0 : ((2 * q : Nat) : Int) = 2 * (q : Int) := by omega
  have e1 : ((2 * q + 1 : Nat) : Int) = 2 * (q : Int) + 1 := by omega
  refine ⟨fun u v s h1 h2 h3 => ?_, fun u v s h1 h2 h3 => ?_, fun u v s h1 h2 h3 => ?_, fun u v s m x h1 h2 h3 h4 h5 => ?_⟩
  · have := rle_any u E Z v Bs Q s (2 * q) 0 (f0 - last) h1 h2 h3 (by omega) (by omega) h0 (by rw [lut_len_dc q hq]; have := size_le (f0 - last) 11 h0; omega)
    rw [e0, Nat.zero_mul, Nat.zero_add] at this
    exact this
  · have := emitHuff_any u E Z v Bs s (2 * q + 1) 240 h1 h2.lut (by omega) (by omega) (by rw [lut_len_ac q hq]; omega)
    rw [e1] at this
    exact this
  · have := emitHuff_any u E Z v Bs s (2 * q + 1) 0 h1 h2.lut (by omega) (by omega) (by rw [lut_len_ac q hq]; omega)
    rw [e1] at this
    exact this
  · have := rle_any u E Z v Bs Q s (2 * q + 1) m x h1 h2 h3 (by omega) h4 (by omega) (by rw [lut_len_ac q hq]; have := size_le x 10 h5; omega)
    rw [e1] at this
    exact this

/-- What the loop over the block's other numbers holds behind k rounds. -/
def WbRel (w1 : World) (E Z B : Nat) (v : Value) (Bs : List Nat) (Q : Nat → Nat → Int) (q : Nat) (c f : Nat → Int) (s1 : St) (r : Value) (k : Nat) (wr : World) : Prop :=
  ∃ (v' : Value), r = .int .i32 ((acs (2 * q + 1) f s1 k).2 : Nat) ∧ EncAt wr E Z v' (acs (2 * q + 1) f s1 k).1 ∧ EncStep E Z v v' w1 wr ∧ Reads wr E Z B v' Bs Q q c f
/-- What the loop over sixteen noughts holds behind j rounds. -/
def ZrRel (w1 : World) (E Z B : Nat) (v : Value) (Bs : List Nat) (Q : Nat → Nat → Int) (q : Nat) (c f : Nat → Int) (a : St × Nat) (r : Value) (wr : World) : Prop :=
  ∃ (v' : Value) (j m : Nat), r = .int .i32 (m : Nat) ∧ m + 16 * j = a.2 ∧ EncAt wr E Z v' (zrl (2 * q + 1) a.1 j) ∧ EncStep E Z v v' w1 wr ∧ Reads wr E Z B v' Bs Q q c f

set_option maxRecDepth 100000 in
set_option maxHeartbeats 2000000 in
theorem wb_walk (w w1 : World) (E Z B : Nat) (v : Value) (Bs : List Nat) (Q : Nat → Nat → Int) (s : St) (q : Nat) (c f : Nat → Int) (last : Int) (h : EncAt w1 E Z v s) (hr : Reads w1 E Z B v Bs Q q c f) (hl : s.out.length ≤ 70000000) (hq : q < 2)
    (hd : Divs Q q last c f) (hfd : Calls Tryd.prog 50 #[.pointer (some ⟨B, 0, none⟩)] w fun e w' => e = .returned (.tuple #[]) ∧ w' = w1) :
    Calls Tryd.prog 59 #[.pointer (some ⟨E, 0, none⟩), .pointer (some ⟨B, 0, none⟩), .int .i64 q, .int .i32 last] w (WbPost E Z v w1 s q last f) := by
  have hc0 := hr.cell 0 (by omega)
  rw [show zzAt 0 = 0 from rfl] at hc0
  have hq0 := hd.qs 0 (by omega)
  have hdv := hd.div 0 (by omega)
  have hqc : w1.cell? ⟨E, 20 + q * 64, none⟩ = some (.int .u8 (Q q 0)) := by have := hr.fix.qu q hq 0 (by omega); rw [Nat.mul_comm] at this; exact this
  have hcalls := wbCalls E Z Bs Q q hq last (f 0) hd.dc
  have hb : -(2048 : Int) < f 0 - last ∧ f 0 - last < 2048 := by have := hd.dc; omega
  have hb2 : -(4096 : Int) ≤ last ∧ last ≤ 4096 := by have := hd.last; omega
  have hs1 := sym_len s (2 * q) (size (f 0 - last)) (coded (f 0 - last)) (size (f 0 - last)) (by omega) (by have := size_le _ 11 hd.dc; omega) (by have := size_le _ 11 hd.dc; omega)
  have hal := acs_len (2 * q + 1) (by omega) f hd.ac (sym s (2 * q) (size (f 0 - last)) (coded (f 0 - last)) (size (f 0 - last)))
  have har := acs_run (2 * q + 1) f (sym s (2 * q) (size (f 0 - last)) (coded (f 0 - last)) (size (f 0 - last)))
  have hbo : blockOut s q last f = (if 0 < (acs (2 * q + 1) f (sym s (2 * q) (size (f 0 - last)) (coded (f 0 - last)) (size (f 0 - last))) 63).2 then huff (acs (2 * q + 1) f (sym s (2 * q) (size (f 0 - last)) (coded (f 0 - last)) (size (f 0 - last))) 63).1 (2 * q + 1) 0 else (acs (2 * q + 1) f (sym s (2 * q) (size (f 0 - last)) (coded (f 0 - last)) (size (f 0 - last))) 63).1) := rfl
  have hdc := hcalls.dc
  obtain ⟨s1, hs1'⟩ : ∃ x, x = sym s (2 * q) (size (f 0 - last)) (coded (f 0 - last)) (size (f 0 - last)) := ⟨_, rfl⟩
  have hdc1 := fun u v h1 h2 h3 => hdc u v s h1 h2 h3
  rw [← hs1'] at hs1 hal har hbo hdc1
  obtain ⟨x0, hx0⟩ : ∃ x, x = c 0 := ⟨_, rfl⟩
  obtain ⟨y0, hy0⟩ : ∃ x, x = f 0 := ⟨_, rfl⟩
  obtain ⟨q0, hq0'⟩ : ∃ x, x = Q q 0 := ⟨_, rfl⟩
  rw [← hx0] at hc0 hdv
  rw [← hy0] at hdv hb hdc1
  rw [← hq0'] at hq0 hdv hqc
  have HFD := Lib.hid hfd
  have HDV := Lib.hid hdv
  have HD := Lib.hid hd
  have HH := Lib.hid h
  have HR := Lib.hid hr
  have HC := Lib.hid hcalls
  have HDC := Lib.hid hdc1
  have HAL := Lib.hid hal
  have HAR := Lib.hid har
  have HBO := Lib.hid hbo
  have HY := Lib.hid hy0
  clear h hr hd hfd hdv hx0 hq0' hcalls hdc hdc1 hs1' hal har hbo hy0
  go_enter Tryd.func59, Tryd.ntmps59
  go_wp2_with fail
  refine HFD.out.mono ?_
  rintro e w2 ⟨rfl, rfl⟩
  go_wp2_with fail
  go_quiet ((go_at_call 68; refine Calls.quiet_of_same (HDV.out _)))
  go_wp2_with fail
  refine (HDC.out _ v (HH.out.drew nq) (HR.out.drew nq).fix (by omega)).mono ?_
  rintro e w3 ⟨rfl, v3, h3, k3⟩
  have H3 := Lib.hid h3
  have K3 := Lib.hid ((EncStep.drew E Z v _ nq).trans k3)
  have R3 := Lib.hid (HR.out.step K3.out)
  clear h3 k3 hqc hc0
  go_wp2_with fail
  go_loopw [11, 12, 13] (fun r i _ wr => ∃ k : Nat, k ≤ 63 ∧ i = .int .i64 ((k : Int) + 1) ∧ WbRel w2 E Z B v Bs Q q c f s1 r k wr) (fun _ i _ _ => 64 - (intOf i).toNat)
  case atStart => exact ⟨0, by omega, rfl, v3, rfl, H3.out, K3.out, R3.out⟩
  case round =>
    obtain ⟨k, hk, rfl, v4, rfl, h4, k4, r4⟩ := hrel
    have H4 := Lib.hid h4
    have K4 := Lib.hid k4
    have R4 := Lib.hid r4
    have hrun := HAR.out k
    have halk := HAL.out k hk
    clear h4 k4 r4
    by_cases hlt : k < 63
    · have hlt64 : decide ((k : Int) + 1 < 64) = true := by simp; omega
      have hzc := R4.out.fix.zig (k + 1) (by omega)
      have hzl := zz_lt (k + 1) (by omega)
      have hcc := R4.out.cell (k + 1) (by omega)
      have hqk : wr.cell? ⟨E, 20 + q * 64 + (k + 1), none⟩ = some (.int .u8 (Q q (k + 1))) := by have := R4.out.fix.qu q hq (k + 1) (by omega); rw [Nat.mul_comm, ← Nat.add_assoc] at this; exact this
      have hqb := HD.out.qs (k + 1) (by omega)
      have hdk := HD.out.div (k + 1) (by omega)
      have hack := HD.out.ac (k + 1) (by omega) (by omega)
      have hstep : acs (2 * q + 1) f s1 (k + 1) = acStep (2 * q + 1) (acs (2 * q + 1) f s1 k) (f (k + 1)) := rfl
      obtain ⟨z, hz⟩ : ∃ z, z = zzAt (k + 1) := ⟨_, rfl⟩
      obtain ⟨ck, hck⟩ : ∃ x, x = c (k + 1) := ⟨_, rfl⟩
      obtain ⟨qk, hqk'⟩ : ∃ x, x = Q q (k + 1) := ⟨_, rfl⟩
      obtain ⟨y, hy⟩ : ∃ x, x = f (k + 1) := ⟨_, rfl⟩
      obtain ⟨a, ha⟩ : ∃ x, x = acs (2 * q + 1) f s1 k := ⟨_, rfl⟩
      rw [← hz] at hzc hzl hcc
      rw [← hck] at hcc hdk
      rw [← hqk'] at hqk hqb hdk
      rw [← hy] at hdk hack hstep
      rw [← ha] at H4 hrun halk hstep
      have HDK := Lib.hid hdk
      have HST := Lib.hid hstep
      have HA := Lib.hid ha
      have HZ := Lib.hid (And.intro hz (And.intro hck (And.intro hqk' hy)))
      clear hdk hstep ha hz hck hqk' hy
      rw [← HA.out]
      by_cases hy0 : y = 0
      · subst hy0
        go_wp2_with fail
        go_quiet ((go_at_call 68; refine Calls.quiet_of_same (HDK.out _)))
        go_wp2_with fail
        go_roundw
        case rel =>
          refine ⟨k + 1, by omega, by go_num, v4, ?_, ?_, K4.out.trans (EncStep.drew E Z v4 _ nq), R4.out.drew nq⟩
          · rw [HST.out]; unfold acStep; rw [if_pos rfl]; simp
          · rw [HST.out]; unfold acStep; rw [if_pos rfl]; exact H4.out.drew nq
        case measure => simp [intOf]; omega
      · have hyb : (y == 0) = false := by simpa using hy0
        go_wp2_with fail
        go_quiet ((go_at_call 68; refine Calls.quiet_of_same (HDK.out _)))
        go_wp2_with fail
        obtain ⟨wo, rfl⟩ : ∃ wo : World, wo = wr := ⟨_, rfl⟩
        go_loopw [11] (fun r wr => ZrRel w2 E Z B v Bs Q q c f a r wr) (fun r _ => (intOf r).toNat)
        case atStart => exact ⟨v4, 0, a.2, rfl, by omega, H4.out.drew nq, K4.out.trans (EncStep.drew E Z v4 _ nq), R4.out.drew nq⟩
        case round =>
          obtain ⟨v5, j, m, rfl, hm, h5, k5, r5⟩ := hrel
          have H5 := Lib.hid h5
          have K5 := Lib.hid k5
          have R5 := Lib.hid r5
          have hzl5 := zrl_len (2 * q + 1) (by omega) a.1 j
          clear h5 k5 r5
          by_cases h15 : 15 < m
          · go_wp2_with fail
            refine (HC.out.zrl _ v5 _ H5.out R5.out.fix (by omega)).mono ?_
            rintro e w6 ⟨rfl, v6, h6, k6⟩
            have H6 := Lib.hid h6
            have K6 := Lib.hid k6
            have R6 := Lib.hid (R5.out.step k6)
            clear h6 k6
            go_wp2_with fail
            go_roundw
            case rel => exact ⟨v6, j + 1, m - 16, by simp; omega, by omega, H6.out, K5.out.trans K6.out, R6.out⟩
            case measure => simp [intOf]; omega
          · go_wp2_with fail
            have hj : j = a.2 / 16 := by omega
            have hmm : m = a.2 % 16 := by omega
            refine (HC.out.ac _ v5 _ m y H5.out R5.out.fix (by omega) (by omega) hack).mono ?_
            rintro e w6 ⟨rfl, v6, h6, k6⟩
            have H6 := Lib.hid h6
            have K6 := Lib.hid k6
            have R6 := Lib.hid (R5.out.step k6)
            clear h6 k6
            have HJ := Lib.hid hj
            have HM := Lib.hid hmm
            clear hj hmm
            go_wp2_with fail
            go_roundw
            case rel =>
              refine ⟨k + 1, by omega, by go_num, v6, ?_, ?_, K5.out.trans K6.out, R6.out⟩
              · rw [HST.out]; unfold acStep; rw [if_neg hy0]; rfl
              · rw [HST.out]; unfold acStep; rw [if_neg hy0, ← HJ.out, ← HM.out]; exact H6.out
            case measure => simp [intOf]; omega
    · obtain rfl : k = 63 := by omega
      by_cases hr0 : 0 < (acs (2 * q + 1) f s1 63).2
      · go_wp2_with fail
        refine (HC.out.eob _ v4 _ H4.out R4.out.fix (by omega)).mono ?_
        rintro e w6 ⟨rfl, v6, h6, k6⟩
        have H6 := Lib.hid h6
        have K6 := Lib.hid k6
        clear h6 k6
        go_wp2_with fail
        go_ret
        refine ⟨by show Ending.returned (.int .i32 y0) = _; rw [HY.out], v6, ?_, K4.out.trans K6.out⟩
        rw [HBO.out, if_pos hr0]
        exact H6.out
      · go_wp2_with fail
        go_ret
        refine ⟨by show Ending.returned (.int .i32 y0) = _; rw [HY.out], v4, ?_, K4.out⟩
        rw [HBO.out, if_neg hr0]
        exact H4.out

theorem holds_cell {w : World} {B : Nat} {F : Array Int} (h : Holds i32v w B 0 F) (j : Nat) (hj : j < F.size) : w.cell? ⟨B, j, none⟩ = some (.int .i32 F[j]!) := by
  have := (h j hj).1
  rw [Nat.zero_add] at this
  rw [this, getElem!_pos F j hj]
  rfl

def BlockPost (E Z B : Nat) (Bs : List Nat) (v : Value) (w : World) (s : St) (q : Nat) (Qq : Nat → Int) (d : Array Int) (last : Int) (e : Ending) (w' : World) : Prop :=
  e = .returned (.int .i32 (quantd Qq d 0)) ∧ ∃ v', EncAt w' E Z v' (blockOut s q last (quantd Qq d)) ∧ Step2 E Z Bs v v' w w' ∧ Holds i32v w' B 0 (fwd d) ∧ v'.ownBlock ≠ some B

theorem holds_same {w w' : World} {B : Nat} {d : Array Int} (h : Holds i32v w B 0 d) (hb : w'.heap[B]? = w.heap[B]?) : Holds i32v w' B 0 d := fun j hj =>
  ⟨(World.cell?_of_block (a := ⟨B, 0 + j, none⟩) hb).trans (h j hj).1, (World.frozen?_of_block (a := ⟨B, 0 + j, none⟩) hb).trans (h j hj).2⟩

theorem writeBlock_any (w : World) (E Z B : Nat) (v : Value) (Bs : List Nat) (Q : Nat → Nat → Int) (s : St) (q : Nat) (d : Array Int) (last : Int) (h : EncAt w E Z v s) (hf : Fix w E Z v Bs Q) (hl : s.out.length ≤ 70000000) (hq : q < 2)
    (hB : B ∈ Bs) (hBE : B ≠ E) (hBZ : B ≠ Z) (hBv : v.ownBlock ≠ some B) (hh : Holds i32v w B 0 d) (hfit : BlockFits d (Q q) last) :
    Calls Tryd.prog 59 #[.pointer (some ⟨E, 0, none⟩), .pointer (some ⟨B, 0, none⟩), .int .i64 q, .int .i32 last] w (BlockPost E Z B Bs v w s q (Q q) d last) := by
  have hfd := fdct_any B d w hfit.size hh
  have hsz := fwd_size d hfit.size
  have honly := OnlyB.putRow w B (fwd d)
  have hh1 : Holds i32v (putRow i32v w B 0 (fwd d)) B 0 (fwd d) := holds_put w B d _ hh (by rw [hsz, hfit.size])
  have hs1 := Step2.only (Z := Z) (v := v) honly hB hBE
  have hlt : B < (putRow i32v w B 0 (fwd d)).heap.size := World.block_lt_of_cell? _ _ (holds_cell hh1 0 (by omega))
  have hr : Reads (putRow i32v w B 0 (fwd d)) E Z B v Bs Q q (fun j => (fwd d)[zzAt j]!) (quantd (Q q) d) :=
    ⟨fun j hj => holds_cell hh1 (zzAt j) (by rw [hsz]; exact zz_lt j hj), hf.step hs1, hBE, hBZ, hlt, hBv⟩
  have hd : Divs Q q last (fun j => (fwd d)[zzAt j]!) (quantd (Q q) d) :=
    ⟨hfit.q, fun j hj u => div_same _ _ u (by have := hfit.bound (zzAt j) (zz_lt j hj); omega) (by have := hfit.bound (zzAt j) (zz_lt j hj); omega) (by have := hfit.q j hj; omega) (by have := hfit.q j hj; omega), hfit.dc, hfit.last, hfit.ac⟩
  refine (wb_walk w _ E Z B v Bs Q s q _ _ last (h.other honly hBE hBZ hBv) hr hl hq hd hfd).mono ?_
  rintro e w' ⟨he, v', h2, k2⟩
  refine ⟨he, v', h2, hs1.trans (k2.to Bs), ?_, ?_⟩
  · exact holds_same hh1 (k2.k.block B hlt (by simp [hBE, hBZ]) hBv)
  · intro e
    rcases k2.k.own B e with h1 | h1
    · exact hBv h1
    · omega

end Go.Proofs.YtlibflbpajeeeaaDoor

namespace Go.Proofs.YtlibflbpajeeeaaDoor
open Go.RowKit Go.Sort

theorem fc_range1 : ∀ j, j < 8 → 1 ≤ j → (-267386880 : Int) ≤ (fcRows.getD j ⟨[], 0, 0, 0, 0⟩).ylo ∧ (fcRows.getD j ⟨[], 0, 0, 0, 0⟩).yhi ≤ (267386880 : Int) := by decide +kernel
theorem fr_range0 : (-8192 : Int) ≤ (frRows.getD 0 ⟨[], 0, 0, 0, 0⟩).ylo ∧ (frRows.getD 0 ⟨[], 0, 0, 0, 0⟩).yhi ≤ (8160 : Int) := by decide +kernel
theorem fr_range1 : ∀ l, l < 8 → 1 ≤ l → (-8187 : Int) ≤ (frRows.getD l ⟨[], 0, 0, 0, 0⟩).ylo ∧ (frRows.getD l ⟨[], 0, 0, 0, 0⟩).yhi ≤ (8187 : Int) := by decide +kernel
theorem frr_range : ∀ l, l < 8 → (-8187 : Int) ≤ (frrRows.getD l ⟨[], 0, 0, 0, 0⟩).ylo ∧ (frrRows.getD l ⟨[], 0, 0, 0, 0⟩).yhi ≤ (8187 : Int) := by decide +kernel

theorem forward_fine (d : Array Int) (hd : d.size = 64) (hb : ∀ k, k < 64 → (0 : Int) ≤ d[k]! ∧ d[k]! ≤ (255 : Int)) (j l : Nat) (hj : j < 8) (hl : l < 8) :
    (j = 0 → l = 0 → (-8192 : Int) ≤ (fwd d)[8 * j + l]! ∧ (fwd d)[8 * j + l]! ≤ (8160 : Int)) ∧ (1 ≤ 8 * j + l → (-8187 : Int) ≤ (fwd d)[8 * j + l]! ∧ (fwd d)[8 * j + l]! ≤ (8187 : Int)) := by
  have hsz : (fcolsA d).size = 64 := by unfold fcolsA; rw [size_steps]; exact hd
  have hc : ∀ m, m < 8 → RowSays fcK (fcRows.getD j ⟨[], 0, 0, 0, 0⟩) (fun n => d[colAt m n]!) ((fcolsA d)[rowAt j m]!) := by
    intro m hm
    show RowSays fcK (fcRows.getD j ⟨[], 0, 0, 0, 0⟩) (fun n => d[colAt m n]!) ((fcolsA d)[8 * j + m]!)
    rw [fcols_get d hd j m hj hm, line_is]
    exact fc_says (fun n => d[colAt m n]!) (fun n hn => hb _ (by unfold colAt; omega)) j hj
  have hY : ∀ m, m < 8 → (-268435456 : Int) ≤ (fcolsA d)[rowAt j m]! ∧ (fcolsA d)[rowAt j m]! ≤ (267386880 : Int) := by
    intro m hm
    have h := hc m hm
    have hr := fc_range j hj
    have h1 := h.lo
    have h2 := h.hi
    omega
  unfold fwd
  rw [frows_get _ hsz j l hj hl, line_is]
  have h := fr_says _ hY l hl
  have h1 := h.lo
  have h2 := h.hi
  refine ⟨?_, ?_⟩
  · intro _ hl0
    have hr := fr_range0
    subst hl0
    omega
  · intro hn
    by_cases hl1 : 1 ≤ l
    · have hr := fr_range1 l hl hl1
      omega
    · have hj1 : 1 ≤ j := by omega
      have hY2 : ∀ m, m < 8 → (-267386880 : Int) ≤ (fcolsA d)[rowAt j m]! ∧ (fcolsA d)[rowAt j m]! ≤ (267386880 : Int) := by
        intro m hm
        have h := hc m hm
        have hr := fc_range1 j hj hj1
        have h1 := h.lo
        have h2 := h.hi
        omega
      have h' := frr_says _ hY2 l hl
      have h3 := h'.lo
      have h4 := h'.hi
      have hr := frr_range l hl
      omega

theorem rnd_dc (a q : Int) (ha : -8192 ≤ a ∧ a ≤ 8160) (hq : 1 ≤ q ∧ q ≤ 255) : -1024 ≤ rnd a (8 * q) ∧ rnd a (8 * q) ≤ 1020 := by
  unfold rnd
  have e : 8 * q / 2 = 4 * q := by omega
  rw [e]
  split
  · have h1 : (-a + 4 * q) / (8 * q) < 1025 := Int.ediv_lt_of_lt_mul (by omega) (by omega)
    have h2 : 0 ≤ (-a + 4 * q) / (8 * q) := Int.ediv_nonneg (by omega) (by omega)
    omega
  · have h1 : (a + 4 * q) / (8 * q) < 1021 := Int.ediv_lt_of_lt_mul (by omega) (by omega)
    have h2 : 0 ≤ (a + 4 * q) / (8 * q) := Int.ediv_nonneg (by omega) (by omega)
    omega
theorem rnd_ac (a q : Int) (ha : -8187 ≤ a ∧ a ≤ 8187) (hq : 1 ≤ q ∧ q ≤ 255) : (rnd a (8 * q)).natAbs < 1024 := by
  unfold rnd
  have e : 8 * q / 2 = 4 * q := by omega
  rw [e]
  split
  · have h1 : (-a + 4 * q) / (8 * q) < 1024 := Int.ediv_lt_of_lt_mul (by omega) (by omega)
    have h2 : 0 ≤ (-a + 4 * q) / (8 * q) := Int.ediv_nonneg (by omega) (by omega)
    omega
  · have h1 : (a + 4 * q) / (8 * q) < 1024 := Int.ediv_lt_of_lt_mul (by omega) (by omega)
    have h2 : 0 ≤ (a + 4 * q) / (8 * q) := Int.ediv_nonneg (by omega) (by omega)
    omega

theorem zz_pos : ∀ j, j < 64 → 1 ≤ j → 1 ≤ zzAt j := by decide +kernel

theorem blockFits (d : Array Int) (Qq : Nat → Int) (last : Int) (hd : d.size = 64) (hb : ∀ k, k < 64 → (0 : Int) ≤ d[k]! ∧ d[k]! ≤ (255 : Int)) (hq : ∀ j, j < 64 → 1 ≤ Qq j ∧ Qq j ≤ 255) (hl : -1024 ≤ last ∧ last ≤ 1020) :
    BlockFits d Qq last ∧ -1024 ≤ quantd Qq d 0 ∧ quantd Qq d 0 ≤ 1020 := by
  have h0 : -1024 ≤ quantd Qq d 0 ∧ quantd Qq d 0 ≤ 1020 := by
    have := (forward_fine d hd hb 0 0 (by omega) (by omega)).1 rfl rfl
    exact rnd_dc _ _ this (hq 0 (by omega))
  refine ⟨⟨hd, fun j hj => ?_, hq, by omega, by omega, fun j h1 h2 => ?_⟩, h0⟩
  · have h := forward_bounds d hd hb (j / 8) (j % 8) (by omega) (by omega)
    rw [show 8 * (j / 8) + j % 8 = j by omega] at h
    exact h
  · have hz := zz_lt j h2
    have hz1 := zz_pos j h2 h1
    have h := (forward_fine d hd hb (zzAt j / 8) (zzAt j % 8) (by omega) (by omega)).2 (by omega)
    rw [show 8 * (zzAt j / 8) + zzAt j % 8 = zzAt j by omega] at h
    exact rnd_ac _ _ h (hq j h2)

end Go.Proofs.YtlibflbpajeeeaaDoor
