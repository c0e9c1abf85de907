/- The contract of the reference's put: a sign's code, and bits behind it. -/
import Derived.Test.YtlibflbpajeeeaaDoorOut
import Derived.Test.YtlibflbpajeeeaaDoorJDiv
import Derived.StillTailTactics
import Derived.Outline
namespace Go.Proofs.YtlibflbpajeeeaaDoor
open Go.RowKit

/-- What put reads: the variable of the bits at block ov, the codes' four pointers at block A. -/
structure PutMem (w : World) (ov A O : Nat) (v : Value) : Prop where
  oc : w.cell? ⟨ov, 0, none⟩ = some (.pointer (some ⟨O, 0, none⟩))
  al : ∀ t, t < 4 → ∃ C, w.cell? ⟨A, t, none⟩ = some (.pointer (some ⟨C, 0, none⟩)) ∧ C ≠ O ∧ v.ownBlock ≠ some C ∧ C < w.heap.size ∧
    ∀ s, s < 256 → w.cell? ⟨C, 18 + s, none⟩ = some (.int .i64 (codeOf t s)) ∧ w.cell? ⟨C, 274 + s, none⟩ = some (.int .i64 (wideOf t s))
  ne : ov ≠ O ∧ A ≠ O
  nv : v.ownBlock ≠ some ov ∧ v.ownBlock ≠ some A
  lt : ov < w.heap.size ∧ A < w.heap.size
theorem own_step {Bs : List Nat} {v v' : Value} {w w' : World} (k : Keeps Bs v v' w w') {b : Nat} (hb : b < w.heap.size) (hv : v.ownBlock ≠ some b) : v'.ownBlock ≠ some b := by
  intro e
  rcases k.own b e with h | h
  · exact hv h
  · omega
theorem PutMem.step {w w' : World} {ov A O : Nat} {v v' : Value} (h : PutMem w ov A O v) (k : Keeps [O] v v' w w') : PutMem w' ov A O v' := by
  have hs := k.size
  refine ⟨(k.cell (x := ⟨ov, 0, none⟩) h.lt.1 (by simp [h.ne.1]) h.nv.1).trans h.oc, fun t ht => ?_, h.ne, ⟨own_step k h.lt.1 h.nv.1, own_step k h.lt.2 h.nv.2⟩, ⟨by have := h.lt.1; omega, by have := h.lt.2; omega⟩⟩
  obtain ⟨C, h1, h2, h3, h4, h5⟩ := h.al t ht
  refine ⟨C, (k.cell (x := ⟨A, t, none⟩) h.lt.2 (by simp [h.ne.2]) h.nv.2).trans h1, h2, own_step k h4 h3, by omega, fun s hs' => ?_⟩
  exact ⟨(k.cell (x := ⟨C, 18 + s, none⟩) h4 (by simp [h2]) h3).trans (h5 s hs').1, (k.cell (x := ⟨C, 274 + s, none⟩) h4 (by simp [h2]) h3).trans (h5 s hs').2⟩

theorem OutAt.drew {w : World} {O : Nat} {v : Value} {s : St} (h : OutAt w O v s) (q : Nat) : OutAt (w.drewN q) O v s := ⟨h.b, h.bi, h.nb, h.fr, h.row.drew q, h.ok, h.ne⟩
theorem putted_drew {P : Program} {f : FuncId} {args : Array Value} {w : World} {q O : Nat} {v : Value} {F : St} (h : Calls P f args (w.drewN q) (Putted O v (w.drewN q) F)) : Calls P f args (w.drewN q) (Putted O v w F) :=
  h.mono fun _ _ ⟨h1, v', h2, h3⟩ => ⟨h1, v', h2, (Keeps.drew _ _ _ q).trans h3⟩

set_option maxRecDepth 100000 in
set_option maxHeartbeats 400000 in
theorem putc_any (w : World) (ov A O : Nat) (v : Value) (st : St) (t s : Nat) (x : Int) (k : Nat) (h : OutAt w O v st) (hm : PutMem w ov A O v) (hl : st.out.length ≤ 80000000) (ht : t < 4) (hs : s < 256) (hk : k ≤ 32) (hx : 0 ≤ x ∧ x < 4294967296) :
    Calls Tryd.prog 23 #[.int .i64 t, .int .i64 s, .int .u32 x, .int .i64 k, .pointer (some ⟨ov, 0, none⟩), .pointer (some ⟨A, 0, none⟩)] w (Putted O v w (sym st t s x k)) := by
  have hoc := hm.oc
  obtain ⟨C, hac, hC1, hC2, hC3, hC4⟩ := hm.al t ht
  obtain ⟨hcd, hwd⟩ := hC4 s hs
  obtain ⟨_, _, f3, f4, f5⟩ := code_fits t ht s hs
  have hc16 : codeOf t s < 65536 := by
    have h1 := pow_le f3
    have e : (2 : Int) ^ 16 = 65536 := by decide
    omega
  have hP1 : Calls Tryd.prog 24 #[.pointer (some ⟨O, 0, none⟩), .int .u32 (codeOf t s), .int .i64 (wideOf t s)] w.drew (Putted O v w (pushBits st (codeOf t s) (wideOf t s))) := putted_drew (q := 1) (put_any (w.drewN 1) O v st (codeOf t s) (wideOf t s) (h.drew 1) (by omega) (by omega) ⟨f4, by omega⟩)
  have hlen := huff_len st t s ht hs
  have H := Lib.hid h
  have HM := Lib.hid hm
  have hsym : pushBits (huff st t s) x k = sym st t s x k := rfl
  have hhuff : pushBits st (codeOf t s) (wideOf t s) = huff st t s := rfl
  rw [hhuff] at hP1
  obtain ⟨hu, hhu⟩ : ∃ hu, hu = huff st t s := ⟨_, rfl⟩
  rw [← hhu] at hP1 hlen hsym
  obtain ⟨c, hc⟩ : ∃ c, c = codeOf t s := ⟨_, rfl⟩
  obtain ⟨n, hn⟩ : ∃ c, c = wideOf t s := ⟨_, rfl⟩
  rw [← hc] at hP1 hcd f4 hc16
  rw [← hn] at hP1 hwd f3
  have hwr : IntKind.u32.wrap c = c := by show c % 4294967296 = c; omega
  have HP1 := Lib.hid hP1
  have HSYM := Lib.hid hsym
  clear h hm hC4 f5 hP1 hhuff hsym hhu hc hn hC1 hC2 hC3
  have ht2 : (t : Int) < 4 := by omega
  have hs2 : (s : Int) < 256 := by omega
  go_enter Tryd.func23, Tryd.ntmps23
  go_wp2_with fail
  go_still_tail 18, (by kernel_rfl)
  change wpList _ _ _ _ _ w.drew
  have HP1' := Lib.hid HP1.out
  generalize hwd2 : w.drew = w0 at HP1' ⊢
  have HWD := Lib.hid hwd2
  clear hwd2
  go_wp2_with fail
  refine HP1'.out.mono ?_
  rintro e w1 ⟨rfl, v1, h1, k1⟩
  have hoc1 := (HM.out.step k1).oc
  have H1 := Lib.hid h1
  have K1 := Lib.hid k1
  clear h1 k1 hoc hac hcd hwd
  go_wp2_with fail
  refine (put_any w1 O v1 hu x k H1.out (by omega) hk hx).mono ?_
  rintro e w2 ⟨rfl, v2, h2, k2⟩
  rw [HSYM.out] at h2
  have H2 := Lib.hid h2
  have K2 := Lib.hid k2
  clear h2 k2
  go_wp2_with fail
  go_end0
  exact ⟨rfl, v2, H2.out, K1.out.trans K2.out⟩
end Go.Proofs.YtlibflbpajeeeaaDoor
