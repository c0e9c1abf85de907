/- The contracts of ZZBytes' Write, WriteByte and Flush: bytes behind the slice that lies in block Z. The encoder at block E over ZZBytes at block Z: the contracts of writeByte, write, flush and emit. Rows that a literal lays, rows behind rows: append as one arm for bytes and for ints; the contract of the reference's segment. The contract of bytes.Clone over a row that is not empty. (Joined by wip/gen/merge.py.) -/
import Derived.Test.YtlibflbpajeeeaaDoorJRow
import Derived.Handy
import Derived.Test.YtlibflbpajeeeaaDoorBits
namespace Go.Proofs.YtlibflbpajeeeaaDoor
open Go.RowKit

/-- Block Z holds a slice of the call's own with just these bytes. -/
structure ZAt (w : World) (Z : Nat) (v : Value) (xs : List Int) : Prop where
  zc : w.cell? ⟨Z, 0, none⟩ = some v
  zf : w.frozen? ⟨Z, 0, none⟩ = false
  row : RowAt w 5 v (xs.map u8v)
  ne : v.ownBlock ≠ some Z

theorem ZAt.lt {w : World} {Z : Nat} {v : Value} {xs : List Int} (h : ZAt w Z v xs) : Z < w.heap.size := World.block_lt_of_cell? w _ h.zc

/-- Behind an append and the store of its value. -/
theorem zz_done {w wx w1 : World} {Z : Nat} {v : Value} {xs ps : List Int} {g n cap : Nat} (h : ZAt w Z v xs) (hk : Keeps [Z] v v w wx) (hz : wx.cell? ⟨Z, 0, none⟩ = some v) (hf : wx.frozen? ⟨Z, 0, none⟩ = false)
    (hrow : RowAt w1 5 (.slice (some ⟨g, 0, none⟩) n cap) (xs.map u8v ++ ps.map u8v)) (hg : wx.grownBy w1 v.ownBlock) (ho : v.ownBlock = some g ∨ wx.heap.size ≤ g) (_hlt : g < w1.heap.size) :
    ZAt (w1.setCell ⟨Z, 0, none⟩ (.slice (some ⟨g, 0, none⟩) n cap)) Z (.slice (some ⟨g, 0, none⟩) n cap) (xs ++ ps) ∧ Keeps [Z] v (.slice (some ⟨g, 0, none⟩) n cap) w (w1.setCell ⟨Z, 0, none⟩ (.slice (some ⟨g, 0, none⟩) n cap)) := by
  have hZ := World.block_lt_of_cell? wx _ hz
  have hZb : w1.heap[Z]? = wx.heap[Z]? := hg.block Z hZ (fun e => h.ne e.symm)
  have hne : g ≠ Z := by
    intro e
    rcases ho with h1 | h1
    · exact h.ne (e ▸ h1)
    · have : Z < wx.heap.size := hZ
      omega
  have own : ∀ k, (Value.slice (some ⟨g, 0, none⟩) n cap).ownBlock = some k → v.ownBlock = some k ∨ wx.heap.size ≤ k := by
    intro k hk'
    simp [Value.ownBlock] at hk'
    subst hk'
    exact ho
  refine ⟨⟨?_, ?_, ?_, ?_⟩, ?_⟩
  · rw [World.cell?_setCell_same w1 _ _ ((World.cell?_of_block (a := ⟨Z, 0, none⟩) hZb).trans hz)]
  · rw [World.frozen?_setCell, World.frozen?_of_block (a := ⟨Z, 0, none⟩) hZb, hf]
  · rw [List.map_append]
    exact hrow.setCell _ _ (by simp [Value.ownBlock, hne])
  · simp [Value.ownBlock, hne]
  · exact (hk.trans (Keeps.grown hg own)).trans (Keeps.setCell _ _ _ _ (by simp))

set_option maxHeartbeats 1000000 in
theorem zz_byte (w : World) (Z : Nat) (v : Value) (xs : List Int) (b : Int) (h : ZAt w Z v xs) (hl : xs.length ≤ 100000000) :
    Calls Tryd.prog 95 #[.pointer (some ⟨Z, 0, none⟩), .int .u8 b] w fun e w' => e = .returned Value.nilIface ∧ ∃ v', ZAt w' Z v' (xs ++ [b]) ∧ Keeps [Z] v v' w w' := by
  obtain ⟨i0, hi, hz0, hz1, hz2⟩ := info_parts Tryd.infoU8
  have HI := Lib.hid hi
  have HZ0 := Lib.hid hz0
  have HZ1 := Lib.hid hz1
  have HZ2 := Lib.hid hz2
  have hzc := h.zc
  have hzf := h.zf
  have H := Lib.hid h
  clear h hi hz0 hz1 hz2
  go_enter Tryd.func95, Tryd.ntmps95
  go_wp2_with (at_builtin; refine wpList_append_row rfl _ _ 32 rfl 5 i0 (.int .u8 0) 1 Tryd.underlying32 HI.out HZ0.out HZ1.out HZ2.out rfl v (xs.map u8v) rfl (H.out.row.alloc _) ⟨w.heap.size, 0, none⟩ 1 1 [.int .u8 b] rfl rfl (by decide) ?_ ?_ (by decide) ?_ ?_)
  · intro j u hj
    match j, hj with
    | 0, hj => simp at hj; subst hj; simp [Addr.add]
  · intro u hu; simp at hu; subst hu; rfl
  · simp; omega
  intro g cap w1 hrow hg ho hlt
  have hz : (w.alloc (.cells #[.int .u8 b] 5)).cell? ⟨Z, 0, none⟩ = some v := by rw [World.cell?_alloc_past _ _ _ H.out.lt]; exact hzc
  have hf : (w.alloc (.cells #[.int .u8 b] 5)).frozen? ⟨Z, 0, none⟩ = false := by rw [World.frozen?_alloc_past _ _ _ H.out.lt]; exact hzf
  have hzb := hg.block Z (by simp; have := H.out.lt; omega) (fun e => H.out.ne e.symm)
  have hz1 : w1.cell? ⟨Z, 0, none⟩ = some v := (World.cell?_of_block (a := ⟨Z, 0, none⟩) hzb).trans hz
  have hf1 : w1.frozen? ⟨Z, 0, none⟩ = false := (World.frozen?_of_block (a := ⟨Z, 0, none⟩) hzb).trans hf
  have D := Lib.hid (zz_done (ps := [b]) H.out (Keeps.alloc [Z] v w _) hz hf hrow hg (by simpa using ho) hlt)
  clear hrow hg ho hlt hz hf hzb
  go_wp2
  go_ret
  exact ⟨rfl, _, D.out.1, D.out.2⟩

set_option maxHeartbeats 1000000 in
theorem zz_write (w : World) (Z : Nat) (v : Value) (xs ps : List Int) (ad : Addr) (m c : Nat) (h : ZAt w Z v xs) (hl : xs.length ≤ 100000000) (hm : 0 < m) (hm2 : m ≤ 100000) (hps : ps.length = m)
    (hc : ∀ j u, (ps.map u8v)[j]? = some u → w.cell? (ad.add j) = some u) :
    Calls Tryd.prog 94 #[.pointer (some ⟨Z, 0, none⟩), .slice (some ad) m c] w fun e w' => e = .returned (.tuple #[.int .i64 m, Value.nilIface]) ∧ ∃ v', ZAt w' Z v' (xs ++ ps) ∧ Keeps [Z] v v' w w' := by
  obtain ⟨i0, hi, hz0, hz1, hz2⟩ := info_parts Tryd.infoU8
  have HI := Lib.hid hi
  have HZ0 := Lib.hid hz0
  have HZ1 := Lib.hid hz1
  have HZ2 := Lib.hid hz2
  have hzc := h.zc
  have hzf := h.zf
  have H := Lib.hid h
  have HC := Lib.hid hc
  have HPS := Lib.hid hps
  clear h hi hz0 hz1 hz2 hc hps
  go_enter Tryd.func94, Tryd.ntmps94
  go_wp2_with (at_builtin; refine wpList_append_row rfl _ _ 32 rfl 5 i0 (.int .u8 0) 1 Tryd.underlying32 HI.out HZ0.out HZ1.out HZ2.out rfl v (xs.map u8v) rfl H.out.row ad m c (ps.map u8v) rfl ?_ hm HC.out ?_ (by decide) ?_ ?_)
  · rw [List.length_map]; exact HPS.out
  · intro u hu; rw [List.mem_map] at hu; obtain ⟨x, _, rfl⟩ := hu; rfl
  · simp; omega
  intro g cap w1 hrow hg ho hlt
  have hzb := hg.block Z H.out.lt (fun e => H.out.ne e.symm)
  have hz1 : w1.cell? ⟨Z, 0, none⟩ = some v := (World.cell?_of_block (a := ⟨Z, 0, none⟩) hzb).trans hzc
  have hf1 : w1.frozen? ⟨Z, 0, none⟩ = false := (World.frozen?_of_block (a := ⟨Z, 0, none⟩) hzb).trans hzf
  have D := Lib.hid (zz_done (ps := ps) H.out (Keeps.refl [Z] v w) hzc hzf hrow hg ho hlt)
  clear hrow hg ho hlt hzb
  go_wp2
  go_ret2
  exact ⟨rfl, _, D.out.1, D.out.2⟩

theorem zz_flush (w : World) (Z : Nat) : Calls Tryd.prog 93 #[.pointer (some ⟨Z, 0, none⟩)] w fun e w' => e = .returned Value.nilIface ∧ w' = w := by
  go_enter Tryd.func93, Tryd.ntmps93
  go_wp2
  go_ret
  exact ⟨rfl, rfl⟩

end Go.Proofs.YtlibflbpajeeeaaDoor

namespace Go.Proofs.YtlibflbpajeeeaaDoor
open Go.RowKit

def St.put (s : St) (ps : List Int) : St := { s with out := s.out ++ ps }

/-- The encoder: its writer, no error, its bits, and what has been written. -/
structure EncAt (w : World) (E Z : Nat) (v : Value) (s : St) : Prop where
  w0 : w.cell? ⟨E, 0, none⟩ = some (.iface 53 (.pointer (some ⟨Z, 0, none⟩)))
  er : w.cell? ⟨E, 1, none⟩ = some Value.nilIface
  bu : ∀ j, j < 16 → ∃ x : Int, w.cell? ⟨E, 2 + j, none⟩ = some (.int .u8 x)
  bi : w.cell? ⟨E, 18, none⟩ = some (.int .u32 (s.acc * 2 ^ (32 - s.n)))
  nb : w.cell? ⟨E, 19, none⟩ = some (.int .u32 s.n)
  fr : ∀ j, j < 152 → w.frozen? ⟨E, j, none⟩ = false
  z : ZAt w Z v s.out
  ok : s.Ok
  ne : E ≠ Z
  vE : v.ownBlock ≠ some E

theorem EncAt.ltE {w : World} {E Z : Nat} {v : Value} {s : St} (h : EncAt w E Z v s) : E < w.heap.size := World.block_lt_of_cell? w _ h.er
theorem EncAt.ltZ {w : World} {E Z : Nat} {v : Value} {s : St} (h : EncAt w E Z v s) : Z < w.heap.size := h.z.lt

/-- What turns while something is written: blocks E, Z and the row's; of E only the cells 1 to 19. -/
structure EncStep (E Z : Nat) (v v' : Value) (w w' : World) : Prop where
  k : Keeps [E, Z] v v' w w'
  ec : ∀ j, j < 1 ∨ 20 ≤ j → w'.cell? ⟨E, j, none⟩ = w.cell? ⟨E, j, none⟩
  ef : ∀ j, w'.frozen? ⟨E, j, none⟩ = w.frozen? ⟨E, j, none⟩
theorem EncStep.refl (E Z : Nat) (v : Value) (w : World) : EncStep E Z v v w w := ⟨Keeps.refl _ _ _, fun _ _ => rfl, fun _ => rfl⟩
theorem EncStep.trans {E Z : Nat} {u v x : Value} {a b c : World} (h : EncStep E Z u v a b) (k : EncStep E Z v x b c) : EncStep E Z u x a c :=
  ⟨h.k.trans k.k, fun j hj => (k.ec j hj).trans (h.ec j hj), fun j => (k.ef j).trans (h.ef j)⟩
theorem EncStep.ofZ {E Z : Nat} {v v' : Value} {w w' : World} (h : Keeps [Z] v v' w w') (hE : E < w.heap.size) (hne : E ≠ Z) (hv : v.ownBlock ≠ some E) : EncStep E Z v v' w w' :=
  ⟨h.wider (by simp), fun j _ => h.cell (x := ⟨E, j, none⟩) hE (by simp [hne]) hv, fun j => h.frozen (x := ⟨E, j, none⟩) hE (by simp [hne]) hv⟩
theorem EncStep.setE {E Z : Nat} {v : Value} {w : World} (j : Nat) (x : Value) (hj : 1 ≤ j ∧ j < 20) : EncStep E Z v v w (w.setCell ⟨E, j, none⟩ x) :=
  ⟨Keeps.setCell v w _ x (by simp), fun i hi => World.cell?_setCell_other _ _ _ _ (by intro e; injection e; omega), fun i => World.frozen?_setCell _ _ _ _⟩
theorem EncStep.alloc (E Z : Nat) (v : Value) (w : World) (o : Obj) (hE : E < w.heap.size) : EncStep E Z v v w (w.alloc o) :=
  ⟨Keeps.alloc _ _ _ _, fun _ _ => World.cell?_alloc_past _ _ _ hE, fun _ => World.frozen?_alloc_past _ _ _ hE⟩
theorem EncStep.drew (E Z : Nat) (v : Value) (w : World) (q : Nat) : EncStep E Z v v w (w.drewN q) := ⟨Keeps.drew _ _ _ _, fun _ _ => rfl, fun _ => rfl⟩

theorem ZAt.alloc {w : World} {Z : Nat} {v : Value} {xs : List Int} (h : ZAt w Z v xs) (o : Obj) : ZAt (w.alloc o) Z v xs :=
  ⟨(World.cell?_alloc_past _ _ _ h.lt).trans h.zc, (World.frozen?_alloc_past _ _ _ h.lt).trans h.zf, h.row.alloc o, h.ne⟩
theorem ZAt.setCell {w : World} {Z : Nat} {v : Value} {xs : List Int} (h : ZAt w Z v xs) (a : Addr) (x : Value) (h1 : a.block ≠ Z) (h2 : v.ownBlock ≠ some a.block) : ZAt (w.setCell a x) Z v xs :=
  ⟨(World.cell?_setCell_other _ _ _ _ (by intro e; exact h1 (by rw [e]))).trans h.zc, (World.frozen?_setCell _ _ _ _).trans h.zf, h.row.setCell a x h2, h.ne⟩
theorem ZAt.drew {w : World} {Z : Nat} {v : Value} {xs : List Int} (h : ZAt w Z v xs) (q : Nat) : ZAt (w.drewN q) Z v xs := ⟨h.zc, h.zf, h.row.drew q, h.ne⟩

theorem EncAt.alloc {w : World} {E Z : Nat} {v : Value} {s : St} (h : EncAt w E Z v s) (o : Obj) : EncAt (w.alloc o) E Z v s :=
  ⟨(World.cell?_alloc_past _ _ _ h.ltE).trans h.w0, (World.cell?_alloc_past _ _ _ h.ltE).trans h.er, fun j hj => by obtain ⟨x, hx⟩ := h.bu j hj; exact ⟨x, (World.cell?_alloc_past _ _ _ h.ltE).trans hx⟩, (World.cell?_alloc_past _ _ _ h.ltE).trans h.bi,
    (World.cell?_alloc_past _ _ _ h.ltE).trans h.nb, fun j hj => (World.frozen?_alloc_past _ _ _ h.ltE).trans (h.fr j hj), h.z.alloc o, h.ok, h.ne, h.vE⟩
theorem EncAt.drew {w : World} {E Z : Nat} {v : Value} {s : St} (h : EncAt w E Z v s) (q : Nat) : EncAt (w.drewN q) E Z v s := ⟨h.w0, h.er, h.bu, h.bi, h.nb, h.fr, h.z.drew q, h.ok, h.ne, h.vE⟩

/-- Behind a write to Z, and the store of no error. -/
theorem EncAt.wrote {w w1 : World} {E Z : Nat} {v v' : Value} {s : St} {ps : List Int} (h : EncAt w E Z v s) (hz : ZAt w1 Z v' (s.out ++ ps)) (hk : Keeps [Z] v v' w w1) :
    EncAt (w1.setCell ⟨E, 1, none⟩ Value.nilIface) E Z v' (s.put ps) ∧ EncStep E Z v v' w (w1.setCell ⟨E, 1, none⟩ Value.nilIface) := by
  have hs := EncStep.ofZ (E := E) hk h.ltE h.ne h.vE
  have hvE : v'.ownBlock ≠ some E := by
    intro e
    rcases hk.own E e with h1 | h1
    · exact h.vE h1
    · have := h.ltE; omega
  have hc : ∀ j, w1.cell? ⟨E, j, none⟩ = w.cell? ⟨E, j, none⟩ := fun j => hk.cell (x := ⟨E, j, none⟩) h.ltE (by simp [h.ne]) h.vE
  have ho : ∀ j x, j ≠ 1 → ((w1.setCell ⟨E, 1, none⟩ Value.nilIface).cell? ⟨E, j, none⟩ = some x ↔ w.cell? ⟨E, j, none⟩ = some x) := by
    intro j x hj
    rw [World.cell?_setCell_other _ _ _ _ (by intro e; injection e; omega), hc]
  refine ⟨⟨(ho 0 _ (by decide)).2 h.w0, ?_, fun j hj => ?_, (ho 18 _ (by decide)).2 h.bi, (ho 19 _ (by decide)).2 h.nb, fun j hj => ?_, hz.setCell _ _ h.ne hvE, ⟨h.ok.n, h.ok.lo, h.ok.hi⟩, h.ne, hvE⟩, hs.trans (EncStep.setE 1 _ (by omega))⟩
  · exact World.cell?_setCell_same w1 _ _ ((hc 1).trans h.er)
  · obtain ⟨x, hx⟩ := h.bu j hj; exact ⟨x, (ho (2 + j) _ (by omega)).2 hx⟩
  · rw [World.frozen?_setCell, hs.ef, h.fr j hj]

def Wrote (E Z : Nat) (v : Value) (w : World) (s' : St) (e : Ending) (w' : World) : Prop := e = .returned (.tuple #[]) ∧ ∃ v', EncAt w' E Z v' s' ∧ EncStep E Z v v' w w'

set_option maxHeartbeats 1000000 in
theorem writeByte_any (w : World) (E Z : Nat) (v : Value) (s : St) (b : Int) (h : EncAt w E Z v s) (hl : s.out.length ≤ 100000000) :
    Calls Tryd.prog 54 #[.pointer (some ⟨E, 0, none⟩), .int .u8 b] w (Wrote E Z v w (s.put [b])) := by
  have h0 := h.w0
  have h1 := h.er
  have h1f := h.fr 1 (by decide)
  have H := Lib.hid h
  clear h
  go_enter Tryd.func54, Tryd.ntmps54
  go_wp2_with fail
  go_at_call 95
  refine (zz_byte w Z v s.out b H.out.z hl).mono ?_
  rintro e w1 ⟨rfl, v', hz, hk⟩
  have hE1 : w1.cell? ⟨E, 1, none⟩ = some Value.nilIface := (hk.cell (x := ⟨E, 1, none⟩) H.out.ltE (by simp [H.out.ne]) H.out.vE).trans h1
  have hF1 : w1.frozen? ⟨E, 1, none⟩ = false := (hk.frozen (x := ⟨E, 1, none⟩) H.out.ltE (by simp [H.out.ne]) H.out.vE).trans h1f
  have D := Lib.hid (H.out.wrote (ps := [b]) hz hk)
  clear hz hk
  go_wp2
  go_end0
  exact ⟨rfl, v', D.out.1, D.out.2⟩

set_option maxHeartbeats 1000000 in
theorem write_any (w : World) (E Z : Nat) (v : Value) (s : St) (ps : List Int) (ad : Addr) (m c : Nat) (h : EncAt w E Z v s) (hl : s.out.length ≤ 100000000) (hm : 0 < m) (hm2 : m ≤ 100000) (hps : ps.length = m)
    (hc : ∀ j u, (ps.map u8v)[j]? = some u → w.cell? (ad.add j) = some u) :
    Calls Tryd.prog 41 #[.pointer (some ⟨E, 0, none⟩), .slice (some ad) m c] w (Wrote E Z v w (s.put ps)) := by
  have h0 := h.w0
  have h1 := h.er
  have h1f := h.fr 1 (by decide)
  have H := Lib.hid h
  have HC := Lib.hid hc
  have HPS := Lib.hid hps
  clear h hc hps
  go_enter Tryd.func41, Tryd.ntmps41
  go_wp2_with fail
  go_at_call 94
  refine (zz_write w Z v s.out ps ad m c H.out.z hl hm hm2 HPS.out HC.out).mono ?_
  rintro e w1 ⟨rfl, v', hz, hk⟩
  have hE1 : w1.cell? ⟨E, 1, none⟩ = some Value.nilIface := (hk.cell (x := ⟨E, 1, none⟩) H.out.ltE (by simp [H.out.ne]) H.out.vE).trans h1
  have hF1 : w1.frozen? ⟨E, 1, none⟩ = false := (hk.frozen (x := ⟨E, 1, none⟩) H.out.ltE (by simp [H.out.ne]) H.out.vE).trans h1f
  have D := Lib.hid (H.out.wrote (ps := ps) hz hk)
  clear hz hk
  go_wp2
  go_end0
  exact ⟨rfl, v', D.out.1, D.out.2⟩

set_option maxHeartbeats 1000000 in
theorem flush_any (w : World) (E Z : Nat) (v : Value) (s : St) (h : EncAt w E Z v s) :
    Calls Tryd.prog 47 #[.pointer (some ⟨E, 0, none⟩)] w (Wrote E Z v w s) := by
  have h0 := h.w0
  have h1 := h.er
  have h1f := h.fr 1 (by decide)
  have H := Lib.hid h
  clear h
  go_enter Tryd.func47, Tryd.ntmps47
  go_wp2_with fail
  go_at_call 93
  refine (zz_flush w Z).mono ?_
  rintro e w1 ⟨rfl, rfl⟩
  have D := Lib.hid (H.out.wrote (ps := []) (by rw [List.append_nil]; exact H.out.z) (Keeps.refl _ _ _))
  go_wp2
  go_end0
  refine ⟨rfl, v, ?_, D.out.2⟩
  have := D.out.1
  unfold St.put at this
  rw [List.append_nil] at this
  exact this

end Go.Proofs.YtlibflbpajeeeaaDoor

namespace Go.Proofs.YtlibflbpajeeeaaDoor
open Go.RowKit

/-- A literal slice is a row. -/
theorem RowAt.lit (w : World) (cs : Array Value) (e : TypeId) (h : cs.size ≤ 1000000000) : RowAt (w.alloc (.cells cs e)) e (.slice (some ⟨w.heap.size, 0, none⟩) cs.size cs.size) cs.toList := by
  unfold RowAt World.ownsRow
  refine ⟨by simp, .inr ⟨w.heap.size, cs.size, cs, by simp, Nat.zero_le _, heap_alloc_new w _, by simp, ?_, by simp, ?_⟩⟩
  · unfold maxLen; omega
  · rw [Array.length_toList, Nat.mul_one, ← Array.length_toList, List.take_length]

/-- The cells of a row that is not empty. -/
theorem RowAt.news {w : World} {e : TypeId} {v : Value} {xs : List Value} (h : RowAt w e v xs) (hn : 0 < xs.length) :
    ∃ g cap, v = .slice (some ⟨g, 0, none⟩) xs.length cap ∧ g < w.heap.size ∧ ∀ j u, xs[j]? = some u → w.cell? ((⟨g, 0, none⟩ : Addr).add j) = some u := by
  rcases h.form with ⟨_, h0⟩ | ⟨g, cap, hv, hg⟩
  · rw [h0] at hn; simp at hn
  · refine ⟨g, cap, hv, hg, fun j u hj => ?_⟩
    exact World.ownsRow.cells h (g := g) (by rw [hv]; rfl) j u hj

theorem u8v_one (xs : List Int) : ∀ u ∈ xs.map u8v, u.oneCell' = true := by
  intro u hu
  rw [List.mem_map] at hu
  obtain ⟨x, _, rfl⟩ := hu
  rfl
def i64v (x : Int) : Value := .int .i64 x
theorem i64v_one (xs : List Int) : ∀ u ∈ xs.map i64v, u.oneCell' = true := by
  intro u hu
  rw [List.mem_map] at hu
  obtain ⟨x, _, rfl⟩ := hu
  rfl

/-- Append on bytes, as an arm. -/
theorem app5 {w : World} {ops : Array Oper} {rest : List Oper} {o : Oper} {a : Act} {Q : Exit → Act → World → Prop} (hgd : o.guard = none) (s x : Operand)
    (ho : o.op = .call { callee := .builtin .append, args := #[s, x], argTypes := #[32, 32] }) (v : Value) (xs : List Int) (hs : a.eval s = v) (hown : RowAt w 5 v (xs.map u8v))
    (ad : Addr) (m c : Nat) (ps : List Int) (hx : a.eval x = .slice (some ad) m c) (hl : ps.length = m) (hm : 0 < m) (hnews : ∀ j u, (ps.map u8v)[j]? = some u → w.cell? (ad.add j) = some u) (hlen : xs.length + m ≤ 1000000000)
    (h : ∀ g cap w', RowAt w' 5 (.slice (some ⟨g, 0, none⟩) (xs.length + m) cap) ((xs ++ ps).map u8v) → w.grownBy w' v.ownBlock → (v.ownBlock = some g ∨ w.heap.size ≤ g) → g < w'.heap.size →
      wpList Tryd.prog ops Q rest (a.put o.dst (.slice (some ⟨g, 0, none⟩) (xs.length + m) cap)) w') : wpList Tryd.prog ops Q (o :: rest) a w := by
  obtain ⟨i0, hi, hz0, hz1, hz2⟩ := info_parts Tryd.infoU8
  refine wpList_append_row hgd s x 32 ho 5 i0 (.int .u8 0) 1 Tryd.underlying32 hi hz0 hz1 hz2 rfl v (xs.map u8v) hs hown ad m c (ps.map u8v) hx (by rw [List.length_map]; exact hl) hm hnews (u8v_one ps) (by decide) (by rw [List.length_map]; exact hlen) ?_
  intro g cap w' h1 h2 h3 h4
  rw [List.length_map] at h1 ⊢
  rw [← List.map_append] at h1
  exact h g cap w' h1 h2 h3 h4
/-- Append on ints, as an arm. -/
theorem app3 {w : World} {ops : Array Oper} {rest : List Oper} {o : Oper} {a : Act} {Q : Exit → Act → World → Prop} (hgd : o.guard = none) (s x : Operand)
    (ho : o.op = .call { callee := .builtin .append, args := #[s, x], argTypes := #[68, 68] }) (v : Value) (xs : List Int) (hs : a.eval s = v) (hown : RowAt w 3 v (xs.map i64v))
    (ad : Addr) (m c : Nat) (ps : List Int) (hx : a.eval x = .slice (some ad) m c) (hl : ps.length = m) (hm : 0 < m) (hnews : ∀ j u, (ps.map i64v)[j]? = some u → w.cell? (ad.add j) = some u) (hlen : xs.length + m ≤ 1000000000)
    (h : ∀ g cap w', RowAt w' 3 (.slice (some ⟨g, 0, none⟩) (xs.length + m) cap) ((xs ++ ps).map i64v) → w.grownBy w' v.ownBlock → (v.ownBlock = some g ∨ w.heap.size ≤ g) → g < w'.heap.size →
      wpList Tryd.prog ops Q rest (a.put o.dst (.slice (some ⟨g, 0, none⟩) (xs.length + m) cap)) w') : wpList Tryd.prog ops Q (o :: rest) a w := by
  obtain ⟨i0, hi, hz0, hz1, hz2⟩ := info_parts Tryd.infoInt
  refine wpList_append_row hgd s x 68 ho 3 i0 (.int .i64 0) 8 Tryd.underlying68 hi hz0 hz1 hz2 rfl v (xs.map i64v) hs hown ad m c (ps.map i64v) hx (by rw [List.length_map]; exact hl) hm hnews (i64v_one ps) (by decide) (by rw [List.length_map]; exact hlen) ?_
  intro g cap w' h1 h2 h3 h4
  rw [List.length_map] at h1 ⊢
  rw [← List.map_append] at h1
  exact h g cap w' h1 h2 h3 h4

theorem news_lit (w : World) (ps : List Value) (t : TypeId) : ∀ j u, ps[j]? = some u → (w.alloc (.cells ps.toArray t)).cell? ((⟨w.heap.size, 0, none⟩ : Addr).add j) = some u := by
  intro j u h
  rw [Addr.add_lit, Nat.zero_add, cell_of_row _ _ _ _ t (0, 0) (heap_alloc_new _ _)]
  simpa using h

/-- A new row behind a call that wrote nothing that stood there. -/
def NewRow (w : World) (xs : List Int) (e : Ending) (w' : World) : Prop := ∃ v', e = .returned v' ∧ RowAt w' 5 v' (xs.map u8v) ∧ Below w.heap.size w w' ∧ ∀ g, v'.ownBlock = some g → w.heap.size ≤ g

def segOf (m : Int) (xs : List Int) : List Int := 255 :: m :: ((xs.length : Int) + 2) / 256 :: ((xs.length : Int) + 2) % 256 :: xs

set_option maxRecDepth 100000 in
set_option maxHeartbeats 1000000 in
theorem segment_any (w : World) (m : Int) (v : Value) (xs : List Int) (h : RowAt w 5 v (xs.map u8v)) (hn : 0 < xs.length) (hl : xs.length ≤ 60000) :
    Calls Tryd.prog 20 #[.int .u8 m, v] w (NewRow w (segOf m xs)) := by
  obtain ⟨g, cap, rfl, hg, hnews⟩ := h.news (by simpa using hn)
  rw [List.length_map]
  obtain ⟨n, hn'⟩ : ∃ n, n = xs.length := ⟨_, rfl⟩
  rw [← hn'] at hn hl ⊢
  have hd0 : 0 ≤ ((n : Int) + 2) / 256 ∧ ((n : Int) + 2) / 256 < 256 := by omega
  have hw : ∀ o, ∀ j u, (xs.map u8v)[j]? = some u → (w.alloc o).cell? ((⟨g, 0, none⟩ : Addr).add j) = some u := fun o j u hj => by
    have := hnews j u hj
    rw [Addr.add_lit] at this ⊢
    exact (World.cell?_alloc_past _ _ _ hg).trans this
  have HW := Lib.hid hw
  have HN := Lib.hid hn'
  clear h hnews hn' hw
  go_enter Tryd.func20, Tryd.ntmps20
  go_wp2_with (at_builtin; refine app5 rfl _ _ rfl _ [255, m, ((n : Int) + 2) / 256, ((n : Int) + 2) % 256] rfl (RowAt.lit w #[.int .u8 255, .int .u8 m, .int .u8 (((n : Int) + 2) / 256), .int .u8 (((n : Int) + 2) % 256)] 5 (by simp)) ⟨g, 0, none⟩ n cap xs rfl HN.out.symm hn (HW.out _) ?_ ?_)
  · simp; omega
  intro g2 cap2 w2 hrow hgr ho hlt
  have H2 := Lib.hid (And.intro hrow (And.intro hgr (And.intro ho hlt)))
  clear hrow hgr ho hlt
  go_wp2_with fail
  go_ret
  refine ⟨_, rfl, ?_, ?_, ?_⟩
  · have := H2.out.1
    unfold segOf
    rw [← HN.out]
    exact this
  · exact ((Below.refl _ _).alloc (Nat.le_refl _) _).grown H2.out.2.1 (by simp) (by intro g hg; simp [Value.ownBlock] at hg; omega)
  · intro k hk
    have := H2.out.2.2.1
    simp [Value.ownBlock] at hk this
    omega
end Go.Proofs.YtlibflbpajeeeaaDoor

namespace Go.Proofs.YtlibflbpajeeeaaDoor
open Go.RowKit

theorem notNil (b n cap : Nat) (W : World) : (binOp .eql 32 (.slice (some ⟨b, 0, none⟩) n cap) (.slice none 0 0)).run Tryd.prog W = .ok (.bool false) W := by kernel_rfl
def ClonePost (w : World) (xs : List Int) (e : Ending) (w' : World) : Prop :=
  ∃ g cap, e = .returned (.slice (some ⟨g, 0, none⟩) xs.length cap) ∧ RowAt w' 5 (.slice (some ⟨g, 0, none⟩) xs.length cap) (xs.map u8v) ∧ w.heap.size ≤ g ∧ g < w'.heap.size ∧ Below w.heap.size w w'

set_option maxRecDepth 100000 in
set_option maxHeartbeats 1000000 in
theorem clone_any (w : World) (b n cap : Nat) (xs : List Int) (hrow : RowAt w 5 (.slice (some ⟨b, 0, none⟩) n cap) (xs.map u8v)) (hn : xs.length = n) (hn0 : 0 < n) (hn1 : n ≤ 1000000) :
    Calls Tryd.prog 34 #[.slice (some ⟨b, 0, none⟩) n cap] w (ClonePost w xs) := by
  have hnews : ∀ j u, (xs.map u8v)[j]? = some u → (w.alloc (.cells #[] 5)).cell? ((⟨b, 0, none⟩ : Addr).add j) = some u := fun j u hj => by
    have hjl : j < (xs.map u8v).length := by
      rcases Nat.lt_or_ge j (xs.map u8v).length with h | h
      · exact h
      · rw [List.getElem?_eq_none h] at hj; cases hj
    rw [Addr.add_lit, Nat.zero_add, (hrow.alloc (.cells #[] 5)).cell rfl j hjl, ← hj, List.getElem?_eq_getElem hjl]
  have HN := Lib.hid hnews
  have HL := Lib.hid hn
  have HR0 := Lib.hid (RowAt.lit w #[] 5 (by simp))
  have hnn := notNil b n cap
  clear hrow hnews hn
  go_enter Tryd.func34, Tryd.ntmps34
  go_wp2_with (at_builtin; refine app5 rfl _ _ rfl _ [] rfl HR0.out ⟨b, 0, none⟩ n cap xs rfl HL.out hn0 HN.out (by simp; omega) ?_)
  intro g cp w1 hr hg ho hlt
  have hD : RowAt w1 5 (.slice (some ⟨g, 0, none⟩) xs.length cp) (xs.map u8v) ∧ w.heap.size ≤ g ∧ Below w.heap.size w w1 := by
    refine ⟨?_, ?_, ((Below.refl _ _).alloc (Nat.le_refl _) _).grown hg (by simp) (fun k hk => by simp [Value.ownBlock] at hk; omega)⟩
    · rw [HL.out]
      exact hr
    · rcases ho with h | h
      · simp [Value.ownBlock] at h; omega
      · omega
  have HD := Lib.hid hD
  clear hr hg ho hD
  go_wp2_with fail
  go_ret
  have e : (([] : List Int).length + n) = xs.length := by simp [HL.out]
  exact ⟨g, cp, by first | rfl | (simp [HL.out]), HD.out.1, HD.out.2.1, hlt, HD.out.2.2⟩
end Go.Proofs.YtlibflbpajeeeaaDoor
