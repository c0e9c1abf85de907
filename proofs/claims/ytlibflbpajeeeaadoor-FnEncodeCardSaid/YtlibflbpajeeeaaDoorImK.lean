/- impl.Encode over each kind of picture: the file's bytes. -/
import Derived.Test.YtlibflbpajeeeaaDoorJInit
import Derived.Test.YtlibflbpajeeeaaDoorJPicG
import Derived.Test.YtlibflbpajeeeaaDoorBlkPl
import Derived.Test.YtlibflbpajeeeaaDoorJEnG
namespace Go.Proofs.YtlibflbpajeeeaaDoor
open Go.RowKit

theorem ycc_bd (r g b : Int) (hr : 0 ≤ r ∧ r ≤ 255) (hg : 0 ≤ g ∧ g ≤ 255) (hb : 0 ≤ b ∧ b ≤ 255) : (0 ≤ lumaOf r g b ∧ lumaOf r g b ≤ 255) ∧ (0 ≤ cbOf r g b ∧ cbOf r g b ≤ 255) ∧ (0 ≤ crOf r g b ∧ crOf r g b ≤ 255) := by
  unfold lumaOf cbOf crOf cut8
  omega
theorem rgb_bd (L : List Int) (wd : Nat) (h : ∀ k, 0 ≤ L.getD k 0 ∧ L.getD k 0 ≤ 255) (x y : Nat) : (0 ≤ rgbY L wd x y ∧ rgbY L wd x y ≤ 255) ∧ (0 ≤ rgbCb L wd x y ∧ rgbCb L wd x y ≤ 255) ∧ (0 ≤ rgbCr L wd x y ∧ rgbCr L wd x y ≤ 255) := ycc_bd _ _ _ (h _) (h _) (h _)
theorem Below.fills {w w' : World} (h : Below w.heap.size w w') : Fills [] w w' := Keeps.below h [] undef
theorem opt_of {told : Bool} {q0 : Int} {u : World} {opt : Value} (hq : -32768 ≤ q0 ∧ q0 ≤ 32767) (h : OptOk told q0 u opt) :
    (opt = .pointer none ∧ qOf q0 told = 75) ∨ ∃ O q1, opt = .pointer (some ⟨O, 0, none⟩) ∧ u.cell? ⟨O, 0, none⟩ = some (.int .i64 q1) ∧ -32768 ≤ q1 ∧ q1 ≤ 32767 ∧ qOf q0 told = min (max q1 1) 100 := by
  rcases h with ⟨rfl, h⟩ | ⟨rfl, O, h1, h2⟩
  · exact .inl ⟨h, rfl⟩
  · exact .inr ⟨O, q0, h1, h2, hq.1, hq.2, rfl⟩
theorem away_new {Z : Nat} {u0 u : World} {ms : List Nat} (hb : u0.heap.size ≤ u.heap.size) (hz : u0.heap.size ≤ Z) (h : ∀ m ∈ ms, m < u0.heap.size) : Away (.slice none 0 0) [Z] u ms := fun m hm => ⟨Nat.lt_of_lt_of_le (h m hm) hb, by have := h m hm; simp; omega, by simp [Value.ownBlock]⟩
theorem rowBelow {w u : World} {e : TypeId} {v : Value} {xs : List Value} (h : RowAt w e v xs) (hb : Below w.heap.size w u) : RowAt u e v xs := h.same fun g hg => hb.block g (h.lt hg)
theorem cellBelow {w u : World} {a : Addr} {v : Value} (h : w.cell? a = some v) (hb : Below w.heap.size w u) : u.cell? a = some v := (hb.cell (World.block_lt_of_cell? w _ h)).trans h
theorem own_none : ∀ g, (Value.slice none 0 0).ownBlock = some g → 2 < g := fun g h => by simp [Value.ownBlock] at h

theorem eqlG (M : Nat) (W : World) : (binOp .eql 48 (.iface 90 (.pointer (some ⟨M, 0, none⟩))) Value.nilIface).run Tryd.prog W = .ok (.bool false) W := by kernel_rfl
theorem eqlR (M : Nat) (W : World) : (binOp .eql 48 (.iface 94 (.pointer (some ⟨M, 0, none⟩))) Value.nilIface).run Tryd.prog W = .ok (.bool false) W := by kernel_rfl
theorem eqlY (M : Nat) (W : World) : (binOp .eql 48 (.iface 98 (.pointer (some ⟨M, 0, none⟩))) Value.nilIface).run Tryd.prog W = .ok (.bool false) W := by kernel_rfl

theorem imGray_any (w : World) (P cp pb pc wd ht : Nat) (rt : Int) (L : List Int) (q0 : Int) (told : Bool) (hL : Laid w) (hq : -32768 ≤ q0 ∧ q0 ≤ 32767) (hP : w.cell? ⟨P, 0, none⟩ = some (.slice (some ⟨pb, 0, none⟩) (wd * ht) pc)) (hrow : RowAt w 5 (.slice (some ⟨pb, 0, none⟩) (wd * ht) pc) (L.map u8v)) (hl : L.length = wd * ht)
    (h8 : ∀ k, 0 ≤ L.getD k 0 ∧ L.getD k 0 ≤ 255) (hd : 1 ≤ wd ∧ wd ≤ 100 ∧ 1 ≤ ht ∧ ht ≤ 100) :
    Calls Tryd.prog 10 #[.agg (picV 1 wd ht rt P 1 cp), .int .i64 q0, .bool told] w (ImPost w (fileOf true (qOf q0 told) (fun x y => L.getD (y * wd + x) 0) (fun _ _ => 0) (fun _ _ => 0) wd ht)) := by
  refine imEncode_of w 1 wd ht rt P 1 cp 90 q0 told _ (fun u M => ∃ q, GrayAt u M q wd ht L) hL eqlG (fun u hb => ?_) (fun u0 u Z M opt hI hb hz hZ hLu h2 ho => ?_)
  · exact (picGray_any u P cp pb pc wd ht rt L (cellBelow hP hb) (rowBelow hrow hb) hl h8 hd).mono fun e w' ⟨M, q, h1, h2, _, _, h5⟩ => ⟨M, h1, ⟨q, h2⟩, h5⟩
  · obtain ⟨q, hg⟩ := hI
    have hM : M < u0.heap.size := World.block_lt_of_cell? u0 _ hg.st
    exact encGray_any u Z M q wd ht _ L (qOf q0 told) opt hZ hLu h2 own_none (hg.keeps (Below.fills hb) (by simp) (by simp)) (away_new hb.size hz (by intro m hm; simp at hm; rcases hm with rfl | rfl <;> first | exact hM | exact hg.lt)) hd (opt_of hq ho)

theorem imRgb_any (w : World) (P cp pb pc wd ht : Nat) (rt : Int) (L : List Int) (q0 : Int) (told : Bool) (hL : Laid w) (hq : -32768 ≤ q0 ∧ q0 ≤ 32767) (hP : w.cell? ⟨P, 0, none⟩ = some (.slice (some ⟨pb, 0, none⟩) (4 * (wd * ht)) pc)) (hrow : RowAt w 5 (.slice (some ⟨pb, 0, none⟩) (4 * (wd * ht)) pc) (L.map u8v)) (hl : L.length = 4 * (wd * ht))
    (h8 : ∀ k, 0 ≤ L.getD k 0 ∧ L.getD k 0 ≤ 255) (hd : 1 ≤ wd ∧ wd ≤ 100 ∧ 1 ≤ ht ∧ ht ≤ 100) :
    Calls Tryd.prog 10 #[.agg (picV 3 wd ht rt P 1 cp), .int .i64 q0, .bool told] w (ImPost w (fileOf false (qOf q0 told) (rgbY L wd) (rgbCb L wd) (rgbCr L wd) wd ht)) := by
  refine imEncode_of w 3 wd ht rt P 1 cp 94 q0 told _ (fun u M => ∃ q, RgbAt u M q wd ht L) hL eqlR (fun u hb => ?_) (fun u0 u Z M opt hI hb hz hZ hLu h2 ho => ?_)
  · exact (picRgb_any u P cp pb pc wd ht rt L (cellBelow hP hb) (rowBelow hrow hb) hl h8 hd).mono fun e w' ⟨M, q, h1, h2, _, _, h5⟩ => ⟨M, h1, ⟨q, h2⟩, h5⟩
  · obtain ⟨q, hg⟩ := hI
    have hM : M < u0.heap.size := World.block_lt_of_cell? u0 _ hg.st
    exact encRgb_any u Z M q wd ht _ L (qOf q0 told) opt hZ hLu h2 own_none (hg.keeps (Below.fills hb) (by simp) (by simp)) (away_new hb.size hz (by intro m hm; simp at hm; rcases hm with rfl | rfl <;> first | exact hM | exact hg.lt)) hd (rgb_bd L wd h8) (opt_of hq ho)

theorem imYcc_any (w : World) (P cp p0 c0 p1 c1 p2 c2 wd ht : Nat) (L0 L1 L2 : List Int) (q0 : Int) (told : Bool) (hL : Laid w) (hq : -32768 ≤ q0 ∧ q0 ≤ 32767) (h0 : w.cell? ⟨P, 0, none⟩ = some (.slice (some ⟨p0, 0, none⟩) (wd * ht) c0)) (h1 : w.cell? ⟨P, 1, none⟩ = some (.slice (some ⟨p1, 0, none⟩) (wd * ht) c1)) (h2 : w.cell? ⟨P, 2, none⟩ = some (.slice (some ⟨p2, 0, none⟩) (wd * ht) c2))
    (k0 : RowAt w 5 (.slice (some ⟨p0, 0, none⟩) (wd * ht) c0) (L0.map u8v)) (k1 : RowAt w 5 (.slice (some ⟨p1, 0, none⟩) (wd * ht) c1) (L1.map u8v)) (k2 : RowAt w 5 (.slice (some ⟨p2, 0, none⟩) (wd * ht) c2) (L2.map u8v)) (hl : L0.length = wd * ht ∧ L1.length = wd * ht ∧ L2.length = wd * ht)
    (h8 : ∀ k, (0 ≤ L0.getD k 0 ∧ L0.getD k 0 ≤ 255) ∧ (0 ≤ L1.getD k 0 ∧ L1.getD k 0 ≤ 255) ∧ (0 ≤ L2.getD k 0 ∧ L2.getD k 0 ≤ 255)) (hd : 1 ≤ wd ∧ wd ≤ 100 ∧ 1 ≤ ht ∧ ht ≤ 100) :
    Calls Tryd.prog 10 #[.agg (picV 2 wd ht 0 P 3 cp), .int .i64 q0, .bool told] w (ImPost w (fileOf false (qOf q0 told) (yccP L0 wd) (yccP L1 wd) (yccP L2 wd) wd ht)) := by
  refine imEncode_of w 2 wd ht 0 P 3 cp 98 q0 told _ (fun u M => ∃ q0 q1 q2, YccAt u M q0 q1 q2 wd ht L0 L1 L2) hL eqlY (fun u hb => ?_) (fun u0 u Z M opt hI hb hz hZ hLu h2 ho => ?_)
  · exact (picYcc_any u P cp p0 c0 p1 c1 p2 c2 wd ht L0 L1 L2 (cellBelow h0 hb) (cellBelow h1 hb) (cellBelow h2 hb) (rowBelow k0 hb) (rowBelow k1 hb) (rowBelow k2 hb) hl h8 hd).mono fun e w' ⟨M, q0, q1, q2, h1, h2, _, _, h5⟩ => ⟨M, h1, ⟨q0, q1, q2, h2⟩, h5⟩
  · obtain ⟨x0, x1, x2, hg⟩ := hI
    have hM : M < u0.heap.size := World.block_lt_of_cell? u0 _ hg.ys
    exact encYcc_any u Z M x0 x1 x2 wd ht _ L0 L1 L2 (qOf q0 told) opt hZ hLu h2 own_none (hg.keeps (Below.fills hb) (by simp) (by simp) (by simp) (by simp)) (away_new hb.size hz (by intro m hm; simp at hm; rcases hm with rfl | rfl | rfl | rfl <;> first | exact hM | exact hg.lt.1 | exact hg.lt.2.1 | exact hg.lt.2.2)) hd (fun x y => ⟨(h8 _).1, (h8 _).2.1, (h8 _).2.2⟩) (opt_of hq ho)
end Go.Proofs.YtlibflbpajeeeaaDoor
