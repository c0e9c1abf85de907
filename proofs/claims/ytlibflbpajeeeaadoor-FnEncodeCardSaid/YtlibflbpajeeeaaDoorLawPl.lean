/- The plain parts of the walk of FnEncode: the mixer as it begins, a row of pixels, what the law holds behind its switch. -/
import Derived.Test.YtlibflbpajeeeaaDoorJAt
import Derived.Test.YtlibflbpajeeeaaDoorImK
import Derived.Test.YtlibflbpajeeeaaDoorEcG
import Derived.Test.YtlibflbpajeeeaaDoorEcC
import Derived.Test.YtlibflbpajeeeaaDoorPix
import Derived.Laws.BytesArg
namespace Go.Proofs.YtlibflbpajeeeaaDoor
open Go.RowKit

def NumsAt (w : World) (ad : Option Addr) (len : Nat) : Prop :=
  0 < len → ∃ b off, ad = some ⟨b, off, none⟩ ∧ b < w.heap.size ∧ ∀ j, j < len → ∃ v : Int, 0 ≤ v ∧ v < 4294967296 ∧ w.cell? ⟨b, off + j, none⟩ = some (.int .u32 v)

theorem mix_new {w : World} {ad : Option Addr} {len cap : Nat} (hl : len ≤ 100) (h : NumsAt w ad len) : MixAt (w.alloc (.cells #[.slice ad len cap, .int .i64 0] 26)) w.heap.size ad len cap 0 := by
  refine ⟨?_, ?_, ?_, by omega, ?_⟩
  · rw [cell_of_row _ _ _ _ _ _ (heap_alloc_new _ _)]; rfl
  · rw [cell_of_row _ _ _ _ _ _ (heap_alloc_new _ _)]; rfl
  · exact frozen_of_row _ _ _ _ _ (heap_alloc_new _ _)
  · intro h0
    obtain ⟨b', off, e, hlt, hv⟩ := h h0
    refine ⟨b', off, e, hlt, fun j hj => ?_⟩
    obtain ⟨v, h0, h1, hc⟩ := hv j hj
    refine ⟨v, h0, h1, ?_⟩
    rw [World.cell?_alloc_lt _ _ _ hlt]
    exact hc

/-- The pixels' new row. -/
theorem pix_row {w' : World} {K n : Nat} {v : Value} {L : List Int} (hn : 0 < n) (hL : L.length = n) (h : w'.ownsRow K 5 1 v n (L.map (Value.int .u8))) :
    ∃ g cap, v = .slice (some ⟨g, 0, none⟩) n cap ∧ K ≤ g ∧ RowAt w' 5 (.slice (some ⟨g, 0, none⟩) n cap) (L.map u8v) := by
  obtain ⟨h1, h2⟩ := h
  rcases h2 with ⟨_, h0⟩ | ⟨g, cp, cur, hv, hg, hh, r⟩
  · omega
  · subst hL
    refine ⟨g, cp, hv, hg, ?_, .inr ⟨g, cp, cur, ?_, Nat.zero_le _, hh, ?_⟩⟩
    · simp
    · rw [List.length_map]
    · rw [List.length_map]; exact r
theorem getD_bd {L : List Int} (h : ∀ y ∈ L, 0 ≤ y ∧ y ≤ 255) (k : Nat) : 0 ≤ L.getD k 0 ∧ L.getD k 0 ≤ 255 := by
  rw [List.getD_eq_getElem?_getD]
  by_cases hk : k < L.length
  · rw [List.getElem?_eq_getElem hk]; exact h _ (List.getElem_mem _)
  · rw [List.getElem?_eq_none (by omega)]; simp

theorem plane_of_row {w : World} {P pl i n m cm b c : Nat} {L : List Int} (h4 : w.cell? ⟨P, 4, none⟩ = some (.slice (some ⟨pl, 0, none⟩) m cm)) (hi : i < m) (hc : w.cell? ⟨pl, i, none⟩ = some (.slice (some ⟨b, 0, none⟩) n c))
    (hr : RowAt w 5 (.slice (some ⟨b, 0, none⟩) n c) (L.map u8v)) (hL : L.length = n) : PlaneAt w P pl i n L := by
  refine ⟨⟨cm, m, h4, hi⟩, ⟨b, c, hc, hr.lt rfl, fun k hk => ?_⟩⟩
  rw [hr.cell rfl k (by simp; omega)]
  simp [u8v, List.getD_eq_getElem?_getD, List.getElem?_eq_getElem (show k < L.length by omega)]

/-- A byte of a row turns. -/
theorem row_set {w : World} {g n cap : Nat} {L : List Int} (h : RowAt w 5 (.slice (some ⟨g, 0, none⟩) n cap) (L.map u8v)) (hn : L.length = n) (j : Nat) (hj : j < n) (x : Int) :
    (∃ v, w.cell? ⟨g, j, none⟩ = some v) ∧ w.frozen? ⟨g, j, none⟩ = false ∧ RowAt (w.setCell ⟨g, j, none⟩ (.int .u8 x)) 5 (.slice (some ⟨g, 0, none⟩) n cap) ((L.set j x).map u8v) := by
  refine ⟨⟨_, h.cell rfl j (by simp; omega)⟩, ?_⟩
  obtain ⟨h1, h2⟩ := h
  rcases h2 with ⟨h0, _⟩ | ⟨g', cp, cur, hv, hg, hh, h3, h4, h5, h6⟩
  · cases h0
  · simp only [Value.slice.injEq, Option.some.injEq, Addr.mk.injEq, and_true] at hv
    obtain ⟨rfl, hl, rfl⟩ := hv
    refine ⟨frozen_of_row _ _ _ _ _ hh, by simp, .inr ⟨g, cap, _, ?_, Nat.zero_le _, heap_setCell_same _ _ _ _ _ _ hh, ?_, h4, by simpa using h5, ?_⟩⟩
    · simp [hn]
    · simpa using h3
    · rw [List.length_map, List.length_set, Array.toList_setIfInBounds, List.take_set]
      rw [List.length_map] at h6
      rw [h6, List.map_set]
      rfl

/-- What the law holds behind its switch: the picture, its width's box, the pixels' function; what impl.Encode and the reference answer from here on. -/
structure Ready (w u : World) (P wb wd ht : Nat) (k : Int) (pv : Array Value) (fn : Value) (q0 : Int) (told : Bool) (F : List Int) : Prop where
  bw : Below w.heap.size w u
  pc : u.heap[P]? = some (.cells pv 30 (0, 0))
  k0 : pv[0]? = some (.int .i64 k)
  pz : (Tryd.prog.info? 30).map (·.size) = some pv.size
  ne : F ≠ []
  wc : u.cell? ⟨wb, 0, none⟩ = some (.int .i64 wd)
  im : ∀ u', Below u.heap.size u u' → Calls Tryd.prog 10 #[.agg pv, .int .i64 q0, .bool told] u' (ImPost u' F)
  ec : ∀ u', Below u.heap.size u u' → Calls Tryd.prog 11 #[.int .i64 wd, .int .i64 ht, .bool (decide (k = 1)), .int .i64 (qOf q0 told), fn, .func (.func 13) #[] #[]] u' (EcPost u' F)

theorem info30 : (Tryd.prog.info? 30).map (·.size) = some 5 := by kernel_rfl
theorem file_ne (gray : Bool) (q : Int) (f0 f1 f2 : Nat → Nat → Int) (wd ht : Nat) : fileOf gray q f0 f1 f2 wd ht ≠ [] := by
  unfold fileOf
  simp

/-- The file's bytes as a string. -/
theorem conv_row {u : World} {g cap : Nat} {F : List Int} (h : RowAt u 5 (.slice (some ⟨g, 0, none⟩) F.length cap) (F.map u8v)) : (convert 32 9 (.slice (some ⟨g, 0, none⟩) F.length cap)).run Tryd.prog u = .ok (.string (strOfNums F)) u :=
  run_convert_bytes_arg u 32 5 Tryd.underlying32 Tryd.underlying5 g 0 F.length cap F rfl (fun i hi => by
    rw [Nat.zero_add, h.cell rfl i (by simpa using hi)]
    simp [u8v, List.getD_eq_getElem?_getD, List.getElem?_eq_getElem hi]) 9 Tryd.underlying9

/-- From the picture's making to its planes' store. -/
structure Mid (w w2 : World) (k wd ht rt : Int) (w3 : World) : Prop where
  pc : w3.heap[w2.heap.size + 1]? = some (.cells #[.int .i64 k, .int .i64 wd, .int .i64 ht, .int .i64 rt, .slice none 0 0] 30 (0, 0))
  wc : w3.cell? ⟨w2.heap.size, 0, none⟩ = some (.int .i64 wd)
  sz : w2.heap.size + 2 ≤ w3.heap.size
  wz : w2.heap.size = w.heap.size + 1
  bw : Below w.heap.size w w3
theorem Mid.start {w w1 w2 : World} {A : Obj} {k wd ht rt : Int} (h1 : OnlyB w.heap.size (w.alloc A) w1) (h2 : OnlyB w.heap.size w1 w2) :
    Mid w w2 k wd ht rt ((w2.alloc (.cells #[.int .i64 wd] 3)).alloc (.cells #[.int .i64 k, .int .i64 wd, .int .i64 ht, .int .i64 rt, .slice none 0 0] 30)) := by
  have hs : w2.heap.size = w.heap.size + 1 := by rw [h2.size, h1.size]; simp
  have hb : Below w.heap.size w w2 := ((((Below.refl _ _).alloc (Nat.le_refl _) _).trans h1.below)).trans h2.below
  refine ⟨heap_alloc2_new _ _ _, ?_, by simp, hs, (hb.alloc hb.size _).alloc (by simp; omega) _⟩
  refine past1 ?_ _
  rw [cell_of_row _ _ _ _ _ _ (heap_alloc_new _ _)]
  rfl
theorem Mid.apart {w w2 w3 w4 : World} {k wd ht rt : Int} (h : Mid w w2 k wd ht rt w3) (ha : Apart w3.heap.size w.heap.size w3 w4) : Mid w w2 k wd ht rt w4 := by
  have h1 := h.sz
  have h2 := h.wz
  have hbw := h.bw.size
  exact ⟨(ha.block _ (by omega) (by omega)).trans h.pc, (World.cell?_of_block (ha.block w2.heap.size (by omega) (by omega))).trans h.wc, Nat.le_trans h1 ha.size, h2, h.bw.trans (ha.below _ hbw (Nat.le_refl _))⟩

theorem row_apart {w3 w4 : World} {B g n c : Nat} {xs : List Value} (h : RowAt w3 5 (.slice (some ⟨g, 0, none⟩) n c) xs) (ha : Apart w3.heap.size B w3 w4) (hg : B < g) : RowAt w4 5 (.slice (some ⟨g, 0, none⟩) n c) xs :=
  h.same fun k hk => by
    obtain rfl : g = k := by simpa [Value.ownBlock] using hk
    exact ha.block g (h.lt rfl) (by omega)

/-- The planes' store. -/
structure Stored (w w2 w3 : World) (k wd ht rt : Int) (n : Nat) (cs : Array Value) (u : World) : Prop where
  pc : u.heap[w2.heap.size + 1]? = some (.cells (picV k wd ht rt w3.heap.size n n) 30 (0, 0))
  wc : u.cell? ⟨w2.heap.size, 0, none⟩ = some (.int .i64 wd)
  pl : u.heap[w3.heap.size]? = some (.cells cs 32 (0, 0))
  bw : Below w.heap.size w u
  lo : ∀ g, g < w3.heap.size → w2.heap.size + 2 ≤ g → u.heap[g]? = w3.heap[g]?
theorem Mid.stored {w w2 w3 : World} {k wd ht rt : Int} (h : Mid w w2 k wd ht rt w3) (n : Nat) (cs : Array Value) : Stored w w2 w3 k wd ht rt n cs ((w3.setCell ⟨w2.heap.size + 1, 4, none⟩ (.slice (some ⟨w3.heap.size, 0, none⟩) n n)).alloc (.cells cs 32)) := by
  have h1 := h.sz
  have h2 := h.wz
  have hs : (w3.setCell ⟨w2.heap.size + 1, 4, none⟩ (.slice (some ⟨w3.heap.size, 0, none⟩) n n)).heap.size = w3.heap.size := by simp [World.setCell]
  have hb := h.bw.setCell (p := ⟨w2.heap.size + 1, 4, none⟩) (by show w.heap.size ≤ w2.heap.size + 1; omega) (.slice (some ⟨w3.heap.size, 0, none⟩) n n)
  refine ⟨?_, ?_, ?_, ?_, fun g hg hg2 => ?_⟩
  · rw [_root_.Go.heap_alloc_old _ _ (by omega), heap_setCell_same _ _ _ _ _ _ h.pc]
    rfl
  · refine past1 ?_ _
    rw [World.cell?_setCell_other _ _ _ _ (by intro e; injection e; omega)]
    exact h.wc
  · have h3 := heap_alloc_new (w3.setCell ⟨w2.heap.size + 1, 4, none⟩ (.slice (some ⟨w3.heap.size, 0, none⟩) n n)) (.cells cs 32)
    rwa [hs] at h3
  · exact hb.alloc hb.size _
  · rw [_root_.Go.heap_alloc_old _ _ (by omega), heap_setCell_other _ _ _ _ (by simp; omega)]

theorem Stored.row {w w2 w3 u : World} {k wd ht rt : Int} {n : Nat} {cs : Array Value} (h : Stored w w2 w3 k wd ht rt n cs u) {g m c : Nat} {xs : List Value} (hr : RowAt w3 5 (.slice (some ⟨g, 0, none⟩) m c) xs) (hg : w2.heap.size + 2 ≤ g) : RowAt u 5 (.slice (some ⟨g, 0, none⟩) m c) xs :=
  hr.same fun k hk => by
    obtain rfl : g = k := by simpa [Value.ownBlock] using hk
    exact h.lo g (hr.lt rfl) hg

/-- The loop that fills every fourth byte. -/
structure FillAt (w w2 : World) (wd ht : Int) (pl g c m : Nat) (L : List Int) (u : World) : Prop where
  pc : u.heap[w2.heap.size + 1]? = some (.cells (picV 3 wd ht (-1) pl 1 1) 30 (0, 0))
  wc : u.cell? ⟨w2.heap.size, 0, none⟩ = some (.int .i64 wd)
  pk : u.cell? ⟨pl, 0, none⟩ = some (.slice (some ⟨g, 0, none⟩) m c)
  row : RowAt u 5 (.slice (some ⟨g, 0, none⟩) m c) (L.map u8v)
  len : L.length = m
  bd : ∀ y ∈ L, 0 ≤ y ∧ y ≤ 255
  bw : Below w.heap.size w u
  gz : w2.heap.size + 2 ≤ g ∧ g ≠ pl ∧ w.heap.size ≤ w2.heap.size
theorem FillAt.set {w w2 u : World} {wd ht : Int} {pl g c m : Nat} {L : List Int} (h : FillAt w w2 wd ht pl g c m L u) (j : Nat) (hj : j < m) : FillAt w w2 wd ht pl g c m (L.set j 255) (u.setCell ⟨g, j, none⟩ (.int .u8 255)) := by
  obtain ⟨g1, g2, g3⟩ := h.gz
  refine ⟨?_, ?_, ?_, (row_set h.row h.len j hj 255).2.2, by simp [h.len], fun y hy => ?_, h.bw.setCell (by show w.heap.size ≤ g; omega) _, h.gz⟩
  · rw [heap_setCell_other _ _ _ _ (by simp; omega)]
    exact h.pc
  · rw [World.cell?_setCell_other _ _ _ _ (by intro e; injection e; omega)]
    exact h.wc
  · rw [World.cell?_setCell_other _ _ _ _ (by intro e; injection e; omega)]
    exact h.pk
  · rcases List.mem_or_eq_of_mem_set hy with h1 | h1
    · exact h.bd y h1
    · omega
/-- What the walk of a round reads. -/
theorem FillAt.reads {w w2 u : World} {wd ht : Int} {pl g c m : Nat} {L : List Int} (h : FillAt w w2 wd ht pl g c m L u) : u.cell? ⟨w2.heap.size, 0, none⟩ = some (.int .i64 wd) ∧ u.cell? ⟨w2.heap.size + 1, 4, none⟩ = some (.slice (some ⟨pl, 0, none⟩) 1 1) ∧ u.cell? ⟨pl, 0, none⟩ = some (.slice (some ⟨g, 0, none⟩) m c) :=
  ⟨h.wc, by rw [cell_of_row _ _ _ _ _ _ h.pc]; rfl, h.pk⟩

theorem ready_gray {w u : World} {P wb wd ht pl cp g c : Nat} {L : List Int} {q0 : Int} {told : Bool} (bw : Below w.heap.size w u) (hL : Laid u) (hd : 1 ≤ wd ∧ wd ≤ 100 ∧ 1 ≤ ht ∧ ht ≤ 100) (hq : -32768 ≤ q0 ∧ q0 ≤ 32767) (pc : u.heap[P]? = some (.cells (picV 1 wd ht (-1) pl 1 cp) 30 (0, 0)))
    (wc : u.cell? ⟨wb, 0, none⟩ = some (.int .i64 wd)) (hp : u.cell? ⟨pl, 0, none⟩ = some (.slice (some ⟨g, 0, none⟩) (wd * ht) c)) (hr : RowAt u 5 (.slice (some ⟨g, 0, none⟩) (wd * ht) c) (L.map u8v)) (hl : L.length = wd * ht) (h8 : ∀ y ∈ L, 0 ≤ y ∧ y ≤ 255) :
    Ready w u P wb wd ht 1 (picV 1 wd ht (-1) pl 1 cp) (.func (.func 5) #[] #[.pointer (some ⟨P, 0, none⟩), .pointer (some ⟨wb, 0, none⟩)]) q0 told (fileOf true (qOf q0 told) (fun x y => L.getD (y * wd + x) 0) (fun _ _ => 0) (fun _ _ => 0) wd ht) := by
  refine ⟨bw, pc, rfl, info30, file_ne _ _ _ _ _ _ _, wc, fun u' hb => ?_, fun u' hb => ?_⟩
  · exact imGray_any u' pl cp g c wd ht (-1) L q0 told (hL.below hb) hq (cellBelow hp hb) (rowBelow hr hb) hl (getD_bd h8) hd
  · have h4 : u.cell? ⟨P, 4, none⟩ = some (.slice (some ⟨pl, 0, none⟩) 1 cp) := by rw [cell_of_row _ _ _ _ _ _ pc]; rfl
    have hpl := plane_of_row h4 (by omega) hp hr hl
    exact encodedGray_any u' 5 _ _ wd ht (qOf q0 told) _ _ _ (qOf_bd _ _) enters5
      (fun v hv x y hx hy => atGray_any v P wb pl wd ht L x y (cellBelow wc (hb.trans (hv.mono hb.size))) (hpl.below (hb.trans (hv.mono hb.size))) ⟨hd.2.1, hd.2.2.2⟩ hx hy) hd
      (fun x y => ⟨getD_bd h8 _, ⟨by omega, by omega⟩, ⟨by omega, by omega⟩⟩)

theorem ready_ycc {w u : World} {P wb wd ht pl cp g0 c0 g1 c1 g2 c2 : Nat} {L0 L1 L2 : List Int} {q0 : Int} {told : Bool} (bw : Below w.heap.size w u) (hL : Laid u) (hd : 1 ≤ wd ∧ wd ≤ 100 ∧ 1 ≤ ht ∧ ht ≤ 100) (hq : -32768 ≤ q0 ∧ q0 ≤ 32767) (pc : u.heap[P]? = some (.cells (picV 2 wd ht 0 pl 3 cp) 30 (0, 0)))
    (wc : u.cell? ⟨wb, 0, none⟩ = some (.int .i64 wd)) (hp0 : u.cell? ⟨pl, 0, none⟩ = some (.slice (some ⟨g0, 0, none⟩) (wd * ht) c0)) (hp1 : u.cell? ⟨pl, 1, none⟩ = some (.slice (some ⟨g1, 0, none⟩) (wd * ht) c1)) (hp2 : u.cell? ⟨pl, 2, none⟩ = some (.slice (some ⟨g2, 0, none⟩) (wd * ht) c2))
    (hr0 : RowAt u 5 (.slice (some ⟨g0, 0, none⟩) (wd * ht) c0) (L0.map u8v)) (hr1 : RowAt u 5 (.slice (some ⟨g1, 0, none⟩) (wd * ht) c1) (L1.map u8v)) (hr2 : RowAt u 5 (.slice (some ⟨g2, 0, none⟩) (wd * ht) c2) (L2.map u8v))
    (hl : L0.length = wd * ht ∧ L1.length = wd * ht ∧ L2.length = wd * ht) (h80 : ∀ y ∈ L0, 0 ≤ y ∧ y ≤ 255) (h81 : ∀ y ∈ L1, 0 ≤ y ∧ y ≤ 255) (h82 : ∀ y ∈ L2, 0 ≤ y ∧ y ≤ 255) :
    Ready w u P wb wd ht 2 (picV 2 wd ht 0 pl 3 cp) (.func (.func 7) #[] #[.pointer (some ⟨P, 0, none⟩), .pointer (some ⟨wb, 0, none⟩)]) q0 told (fileOf false (qOf q0 told) (yccP L0 wd) (yccP L1 wd) (yccP L2 wd) wd ht) := by
  refine ⟨bw, pc, rfl, info30, file_ne _ _ _ _ _ _ _, wc, fun u' hb => ?_, fun u' hb => ?_⟩
  · exact imYcc_any u' pl cp g0 c0 g1 c1 g2 c2 wd ht L0 L1 L2 q0 told (hL.below hb) hq (cellBelow hp0 hb) (cellBelow hp1 hb) (cellBelow hp2 hb) (rowBelow hr0 hb) (rowBelow hr1 hb) (rowBelow hr2 hb) hl (fun k => ⟨getD_bd h80 k, getD_bd h81 k, getD_bd h82 k⟩) hd
  · have h4 : u.cell? ⟨P, 4, none⟩ = some (.slice (some ⟨pl, 0, none⟩) 3 cp) := by rw [cell_of_row _ _ _ _ _ _ pc]; rfl
    have k0 := plane_of_row h4 (by omega) hp0 hr0 hl.1
    have k1 := plane_of_row h4 (by omega) hp1 hr1 hl.2.1
    have k2 := plane_of_row h4 (by omega) hp2 hr2 hl.2.2
    exact encodedColor_any u' 7 _ _ wd ht (qOf q0 told) _ _ _ (qOf_bd _ _) enters7
      (fun v hv x y hx hy => atYcc_any v P wb pl wd ht L0 L1 L2 x y (cellBelow wc (hb.trans (hv.mono hb.size))) (k0.below (hb.trans (hv.mono hb.size))) (k1.below (hb.trans (hv.mono hb.size))) (k2.below (hb.trans (hv.mono hb.size))) ⟨hd.2.1, hd.2.2.2⟩ hx hy) hd
      (fun x y => ⟨getD_bd h80 _, getD_bd h81 _, getD_bd h82 _⟩)

theorem ready_rgb {w u : World} {P wb wd ht pl cp g c : Nat} {L : List Int} {q0 : Int} {told : Bool} (bw : Below w.heap.size w u) (hL : Laid u) (hd : 1 ≤ wd ∧ wd ≤ 100 ∧ 1 ≤ ht ∧ ht ≤ 100) (hq : -32768 ≤ q0 ∧ q0 ≤ 32767) (pc : u.heap[P]? = some (.cells (picV 3 wd ht (-1) pl 1 cp) 30 (0, 0)))
    (wc : u.cell? ⟨wb, 0, none⟩ = some (.int .i64 wd)) (hp : u.cell? ⟨pl, 0, none⟩ = some (.slice (some ⟨g, 0, none⟩) (4 * (wd * ht)) c)) (hr : RowAt u 5 (.slice (some ⟨g, 0, none⟩) (4 * (wd * ht)) c) (L.map u8v)) (hl : L.length = 4 * (wd * ht)) (h8 : ∀ y ∈ L, 0 ≤ y ∧ y ≤ 255) :
    Ready w u P wb wd ht 3 (picV 3 wd ht (-1) pl 1 cp) (.func (.func 8) #[] #[.pointer (some ⟨wb, 0, none⟩), .pointer (some ⟨P, 0, none⟩)]) q0 told (fileOf false (qOf q0 told) (rgbY L wd) (rgbCb L wd) (rgbCr L wd) wd ht) := by
  refine ⟨bw, pc, rfl, info30, file_ne _ _ _ _ _ _ _, wc, fun u' hb => ?_, fun u' hb => ?_⟩
  · exact imRgb_any u' pl cp g c wd ht (-1) L q0 told (hL.below hb) hq (cellBelow hp hb) (rowBelow hr hb) hl (getD_bd h8) hd
  · have h4 : u.cell? ⟨P, 4, none⟩ = some (.slice (some ⟨pl, 0, none⟩) 1 cp) := by rw [cell_of_row _ _ _ _ _ _ pc]; rfl
    have hpl := plane_of_row h4 (by omega) hp hr hl
    exact encodedColor_any u' 8 _ _ wd ht (qOf q0 told) _ _ _ (qOf_bd _ _) enters8
      (fun v hv x y hx hy => atRgb_any v P wb pl wd ht L x y (cellBelow wc (hb.trans (hv.mono hb.size))) (hpl.below (hb.trans (hv.mono hb.size))) (getD_bd h8) ⟨hd.2.1, hd.2.2.2⟩ hx hy) hd
      (rgb_bd L wd (getD_bd h8))
end Go.Proofs.YtlibflbpajeeeaaDoor
