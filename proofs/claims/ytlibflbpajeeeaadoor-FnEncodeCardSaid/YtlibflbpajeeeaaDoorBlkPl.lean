/- What the reference's block reads and writes: the memory of its captured variables; its calls in the walk's own spelling. -/
import Derived.Test.YtlibflbpajeeeaaDoorPut
import Derived.Test.YtlibflbpajeeeaaDoorJRow
import Derived.Test.YtlibflbpajeeeaaDoorPart
import Derived.Test.YtlibflbpajeeeaaDoorStdPl
import Derived.Test.YtlibflbpajeeeaaDoorJImg
namespace Go.Proofs.YtlibflbpajeeeaaDoor
open Go.RowKit Go.Sort

theorem rounded_same (a b : Int) (w : World) (ha0 : -1000000000000 ≤ a) (ha1 : a ≤ 1000000000000) (hb0 : 1 ≤ b) (hb1 : b ≤ 1000000000000) :
    Calls Tryd.prog 26 #[.int .i64 a, .int .i64 b] w fun e w' => e = .returned (.int .i64 (rnd a b)) ∧ w' = w := (rounded_any a b w ha0 ha1 hb0 hb1).mono fun _ _ ⟨h1, h2⟩ => ⟨h1, h2.symm⟩
theorem coded_same (v : Int) (hv : v.natAbs < 4096) (k : Nat) (hk : k = size v) (w : World) :
    Calls Tryd.prog 28 #[.int .i64 v, .int .i64 k] w fun e w' => e = .returned (.int .u32 (coded v)) ∧ w' = w := (coded_any v hv k hk w).mono fun _ _ ⟨h1, h2⟩ => ⟨h1, h2.symm⟩
theorem or_nib64 : ∀ m, m < 16 → ∀ k, k < 16 → bits BinOp.or IntKind.i64 (((m : Nat) : Int) * 16) ((k : Nat) : Int) = (m : Int) * 16 + (k : Int) := by decide +kernel

/-- The memory of block's captured variables: forward's box, the tables, the last numbers, put's box, the places. -/
structure BlkMem (w : World) (fb T LB PB ZB ov A O : Nat) (v : Value) (Q : Nat → Nat → Int) (l : Nat → Int) : Prop where
  fc : w.cell? ⟨fb, 0, none⟩ = some (.func (.func 13) #[] #[])
  tc : ∀ q, q < 2 → ∀ j, j < 64 → w.cell? ⟨T, q * 64 + j, none⟩ = some (.int .i64 (Q q j))
  pc : w.cell? ⟨PB, 0, none⟩ = some (.func (.func 23) #[] #[.pointer (some ⟨ov, 0, none⟩), .pointer (some ⟨A, 0, none⟩)])
  zc : ∀ j, j < 64 → w.cell? ⟨ZB, j, none⟩ = some (.int .i64 (zzAt j))
  lc : ∀ i, i < 3 → w.cell? ⟨LB, i, none⟩ = some (.int .i64 (l i))
  lf : ∀ i, i < 3 → w.frozen? ⟨LB, i, none⟩ = false
  pm : PutMem w ov A O v
  aw : Away v [O] w [fb, T, PB, ZB, LB]
  nl : fb ≠ LB ∧ T ≠ LB ∧ PB ≠ LB ∧ ZB ≠ LB ∧ ov ≠ LB ∧ A ≠ LB
  cl : ∀ t, t < 4 → w.cell? ⟨A, t, none⟩ ≠ some (.pointer (some ⟨LB, 0, none⟩))
theorem BlkMem.step {w w' : World} {fb T LB PB ZB ov A O : Nat} {v v' : Value} {Q : Nat → Nat → Int} {l : Nat → Int} (h : BlkMem w fb T LB PB ZB ov A O v Q l) (k : Keeps [O] v v' w w') : BlkMem w' fb T LB PB ZB ov A O v' Q l := by
  have c : ∀ m ∈ [fb, T, PB, ZB, LB], ∀ j, w'.cell? ⟨m, j, none⟩ = w.cell? ⟨m, j, none⟩ := fun m hm j => by
    obtain ⟨h1, h2, h3⟩ := h.aw m hm
    exact k.cell (x := ⟨m, j, none⟩) h1 h2 h3
  have f : ∀ j, w'.frozen? ⟨LB, j, none⟩ = w.frozen? ⟨LB, j, none⟩ := fun j => by
    obtain ⟨h1, h2, h3⟩ := h.aw LB (by simp)
    exact k.frozen (x := ⟨LB, j, none⟩) h1 h2 h3
  refine ⟨(c fb (by simp) 0).trans h.fc, fun q hq j hj => (c T (by simp) _).trans (h.tc q hq j hj), (c PB (by simp) 0).trans h.pc, fun j hj => (c ZB (by simp) j).trans (h.zc j hj), fun i hi => (c LB (by simp) i).trans (h.lc i hi), fun i hi => (f i).trans (h.lf i hi), h.pm.step k, h.aw.step k, h.nl, fun t ht => ?_⟩
  rw [k.cell (x := ⟨A, t, none⟩) h.pm.lt.2 (by simp [h.pm.ne.2]) h.pm.nv.2]
  exact h.cl t ht
theorem BlkMem.setL {w : World} {fb T LB PB ZB ov A O : Nat} {v : Value} {Q : Nat → Nat → Int} {l : Nat → Int} (h : BlkMem w fb T LB PB ZB ov A O v Q l) (c : Nat) (hc : c < 3) (x : Int) : BlkMem (w.setCell ⟨LB, c, none⟩ (.int .i64 x)) fb T LB PB ZB ov A O v Q (upd l c x) ∧
    Keeps [LB] v v w (w.setCell ⟨LB, c, none⟩ (.int .i64 x)) := by
  obtain ⟨n1, n2, n3, n4, n5, n6⟩ := h.nl
  have o : ∀ b j, b ≠ LB → (w.setCell ⟨LB, c, none⟩ (.int .i64 x)).cell? ⟨b, j, none⟩ = w.cell? ⟨b, j, none⟩ := fun b j hb => World.cell?_setCell_other _ _ _ _ (by intro e; injection e; omega)
  have hLB := h.aw LB (by simp)
  refine ⟨⟨(o fb 0 n1).trans h.fc, fun q hq j hj => (o T _ n2).trans (h.tc q hq j hj), (o PB 0 n3).trans h.pc, fun j hj => (o ZB j n4).trans (h.zc j hj), fun i hi => ?_, fun i hi => by rw [World.frozen?_setCell]; exact h.lf i hi, ?_, ?_, h.nl, fun t ht => by rw [o A t n6]; exact h.cl t ht⟩, Keeps.setCell _ _ _ _ (by simp)⟩
  · have := cell_upd (C := LB) (o := 0) (n := 3) (f := l) (w := w) (fun s hs => by rw [Nat.zero_add]; exact h.lc s hs) c hc x i hi
    rw [Nat.zero_add, Nat.zero_add] at this
    exact this
  · have p := h.pm
    refine ⟨(o ov 0 n5).trans p.oc, fun t ht => ?_, p.ne, p.nv, by simpa [World.setCell] using p.lt⟩
    obtain ⟨C, h1, h2, h3, h4, h5⟩ := p.al t ht
    have hC : C ≠ LB := fun e => h.cl t ht (by rw [h1, e])
    exact ⟨C, (o A t n6).trans h1, h2, h3, by simpa [World.setCell] using h4, fun s hs => ⟨(o C _ hC).trans (h5 s hs).1, (o C _ hC).trans (h5 s hs).2⟩⟩
  · intro m hm
    obtain ⟨h1, h2, h3⟩ := h.aw m hm
    exact ⟨by simpa [World.setCell] using h1, h2, h3⟩

/-- What is read while the numbers are written: the block of them, and all that is captured. -/
structure Reads3 (w : World) (fb T LB PB ZB ov A O F : Nat) (v : Value) (Q : Nat → Nat → Int) (l c : Nat → Int) : Prop where
  cell : ∀ j, j < 64 → w.cell? ⟨F, zzAt j, none⟩ = some (.int .i32 (c j))
  m : BlkMem w fb T LB PB ZB ov A O v Q l
  aw : F < w.heap.size ∧ F ≠ O ∧ F ≠ LB ∧ v.ownBlock ≠ some F
theorem Reads3.step {w w' : World} {fb T LB PB ZB ov A O F : Nat} {v v' : Value} {Q : Nat → Nat → Int} {l c : Nat → Int} (h : Reads3 w fb T LB PB ZB ov A O F v Q l c) (k : Keeps [O] v v' w w') : Reads3 w' fb T LB PB ZB ov A O F v' Q l c := by
  obtain ⟨h1, h2, h3, h4⟩ := h.aw
  exact ⟨fun j hj => (k.cell (x := ⟨F, zzAt j, none⟩) h1 (by simp [h2]) h4).trans (h.cell j hj), h.m.step k, Nat.lt_of_lt_of_le h1 k.size, h2, h3, own_step k h1 h4⟩
theorem Reads3.setL {w : World} {fb T LB PB ZB ov A O F : Nat} {v : Value} {Q : Nat → Nat → Int} {l c : Nat → Int} (h : Reads3 w fb T LB PB ZB ov A O F v Q l c) (i : Nat) (hi : i < 3) (x : Int) : Reads3 (w.setCell ⟨LB, i, none⟩ (.int .i64 x)) fb T LB PB ZB ov A O F v Q (upd l i x) c := by
  obtain ⟨h1, h2, h3, h4⟩ := h.aw
  refine ⟨fun j hj => ?_, (h.m.setL i hi x).1, by simpa [World.setCell] using h1, h2, h3, h4⟩
  rw [World.cell?_setCell_other _ _ _ _ (by intro e; injection e; omega)]
  exact h.cell j hj
theorem OutAt.setL {w : World} {O : Nat} {v : Value} {s : St} (h : OutAt w O v s) (b j : Nat) (hb : b ≠ O) (hv : v.ownBlock ≠ some b) (x : Value) : OutAt (w.setCell ⟨b, j, none⟩ x) O v s := by
  have o : ∀ j', (w.setCell ⟨b, j, none⟩ x).cell? ⟨O, j', none⟩ = w.cell? ⟨O, j', none⟩ := fun j' => World.cell?_setCell_other _ _ _ _ (by intro e; injection e; omega)
  exact ⟨(o 0).trans h.b, (o 1).trans h.bi, (o 2).trans h.nb, fun i hi => by rw [World.frozen?_setCell]; exact h.fr i hi, h.row.setCell _ _ hv, h.ok, h.ne⟩
theorem OutAt.below {w w' : World} {O : Nat} {v : Value} {s : St} (h : OutAt w O v s) (hb : Below w.heap.size w w') : OutAt w' O v s := by
  have hO := hb.block O h.lt
  exact ⟨(World.cell?_of_block (a := ⟨O, 0, none⟩) hO).trans h.b, (World.cell?_of_block (a := ⟨O, 1, none⟩) hO).trans h.bi, (World.cell?_of_block (a := ⟨O, 2, none⟩) hO).trans h.nb, fun i hi => (World.frozen?_of_block (a := ⟨O, i, none⟩) hO).trans (h.fr i hi), h.row.same fun g hg => hb.block g (h.row.lt hg), h.ok, h.ne⟩
theorem Keeps.below {w w' : World} (hb : Below w.heap.size w w') (Bs : List Nat) (v : Value) : Keeps Bs v v w w' := ⟨hb.os, hb.tape, hb.output, hb.size, fun k hk _ _ => hb.block k hk, fun _ h => .inl h⟩

/-- Put's calls, in the walk's own spelling. -/
structure PutCalls (ov A O q : Nat) : Prop where
  dc : ∀ u v s (x : Int), OutAt u O v s → PutMem u ov A O v → s.out.length ≤ 80000000 → x.natAbs < 2048 → Calls Tryd.prog 23 #[.int .i64 (2 * (q : Int)), .int .i64 (size x), .int .u32 (coded x), .int .i64 (size x), .pointer (some ⟨ov, 0, none⟩), .pointer (some ⟨A, 0, none⟩)] u (Putted O v u (sym s (2 * q) (size x) (coded x) (size x)))
  zrl : ∀ u v s, OutAt u O v s → PutMem u ov A O v → s.out.length ≤ 80000000 → Calls Tryd.prog 23 #[.int .i64 (2 * (q : Int) + 1), .int .i64 240, .int .u32 0, .int .i64 0, .pointer (some ⟨ov, 0, none⟩), .pointer (some ⟨A, 0, none⟩)] u (Putted O v u (huff s (2 * q + 1) 240))
  eob : ∀ u v s, OutAt u O v s → PutMem u ov A O v → s.out.length ≤ 80000000 → Calls Tryd.prog 23 #[.int .i64 (2 * (q : Int) + 1), .int .i64 0, .int .u32 0, .int .i64 0, .pointer (some ⟨ov, 0, none⟩), .pointer (some ⟨A, 0, none⟩)] u (Putted O v u (huff s (2 * q + 1) 0))
  ac : ∀ u v s (m : Nat) (x : Int), OutAt u O v s → PutMem u ov A O v → s.out.length ≤ 80000000 → m < 16 → x.natAbs < 1024 →
    Calls Tryd.prog 23 #[.int .i64 (2 * (q : Int) + 1), .int .i64 ((m : Int) * 16 + size x), .int .u32 (coded x), .int .i64 (size x), .pointer (some ⟨ov, 0, none⟩), .pointer (some ⟨A, 0, none⟩)] u (Putted O v u (sym s (2 * q + 1) (m * 16 + size x) (coded x) (size x)))
theorem putCalls (ov A O q : Nat) (hq : q < 2) : PutCalls ov A O q := by
  have e0 : ((2 * q : Nat) : Int) = 2 * (q : Int) := by omega
  have e1 : ((2 * q + 1 : Nat) : Int) = 2 * (q : Int) + 1 := by omega
  have fit : ∀ x : Int, x.natAbs < 2048 → 0 ≤ coded x ∧ coded x < 4294967296 := fun x hx => by
    have h1 := coded_fits x (by omega)
    have h2 := (pow_small (size x) (size_le x 12 (by omega))).1
    omega
  refine ⟨fun u v s x h1 h2 h3 h4 => ?_, fun u v s h1 h2 h3 => ?_, fun u v s h1 h2 h3 => ?_, fun u v s m x h1 h2 h3 h4 h5 => ?_⟩
  · have hk := size_le x 11 h4
    have := putc_any u ov A O v s (2 * q) (size x) (coded x) (size x) h1 h2 h3 (by omega) (by omega) (by omega) (fit x h4)
    rw [e0] at this
    exact this
  · have := putc_any u ov A O v s (2 * q + 1) 240 0 0 h1 h2 h3 (by omega) (by omega) (by omega) (by omega)
    rw [e1] at this
    exact this
  · have := putc_any u ov A O v s (2 * q + 1) 0 0 0 h1 h2 h3 (by omega) (by omega) (by omega) (by omega)
    rw [e1] at this
    exact this
  · have hk := size_le x 10 h5
    have := putc_any u ov A O v s (2 * q + 1) (m * 16 + size x) (coded x) (size x) h1 h2 h3 (by omega) (by omega) (by omega) (fit x (by omega))
    rw [e1, show ((m * 16 + size x : Nat) : Int) = (m : Int) * 16 + size x by omega] at this
    exact this

end Go.Proofs.YtlibflbpajeeeaaDoor
