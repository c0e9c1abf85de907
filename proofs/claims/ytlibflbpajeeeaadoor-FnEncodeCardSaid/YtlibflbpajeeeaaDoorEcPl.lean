/- What the reference's Encoded holds in memory: its two rows of bytes while the head is written; the scan behind some blocks. And: some bits are always written. -/
import Derived.Test.YtlibflbpajeeeaaDoorBlkc
import Derived.Test.YtlibflbpajeeeaaDoorImK
namespace Go.Proofs.YtlibflbpajeeeaaDoor
open Go.RowKit Go.Sort

/-- Two rows of bytes, of the call's own; the blocks of the list are as they were at w1. -/
structure Two (w0 w1 : World) (Fs : List Nat) (bv rv : Value) (bs rs : List Int) (wr : World) : Prop where
  b : RowAt wr 5 bv (bs.map u8v)
  r : RowAt wr 5 rv (rs.map u8v)
  k : Below w0.heap.size w0 wr
  f : ∀ f ∈ Fs, f < w1.heap.size ∧ wr.heap[f]? = w1.heap[f]?
  s : w1.heap.size ≤ wr.heap.size
  bo : ∀ g, bv.ownBlock = some g → w0.heap.size ≤ g ∧ g ∉ Fs ∧ rv.ownBlock ≠ some g
  ro : ∀ g, rv.ownBlock = some g → w0.heap.size ≤ g ∧ g ∉ Fs

theorem Two.below {w0 w1 wr w' : World} {Fs : List Nat} {bv rv : Value} {bs rs : List Int} (h : Two w0 w1 Fs bv rv bs rs wr) (hb : Below wr.heap.size wr w') : Two w0 w1 Fs bv rv bs rs w' :=
  ⟨rowBelow h.b hb, rowBelow h.r hb, h.k.trans (hb.mono h.k.size), fun f hf => ⟨(h.f f hf).1, (hb.block f (Nat.lt_of_lt_of_le (h.f f hf).1 h.s)).trans (h.f f hf).2⟩, Nat.le_trans h.s hb.size, h.bo, h.ro⟩
theorem Two.alloc {w0 w1 wr : World} {Fs : List Nat} {bv rv : Value} {bs rs : List Int} (h : Two w0 w1 Fs bv rv bs rs wr) (o : Obj) : Two w0 w1 Fs bv rv bs rs (wr.alloc o) := h.below ((Below.refl _ _).alloc (Nat.le_refl _) o)
/-- Another first world, other blocks. -/
theorem Two.again {w0 w1 wr : World} {Fs Gs : List Nat} {bv rv : Value} {bs rs : List Int} (h : Two w0 w1 Fs bv rv bs rs wr) (hg : ∀ f ∈ Gs, f < wr.heap.size ∧ bv.ownBlock ≠ some f ∧ rv.ownBlock ≠ some f) : Two w0 wr Gs bv rv bs rs wr :=
  ⟨h.b, h.r, h.k, fun f hf => ⟨(hg f hf).1, rfl⟩, Nat.le_refl _, fun g e => ⟨(h.bo g e).1, fun hf => (hg g hf).2.1 e, (h.bo g e).2.2⟩, fun g e => ⟨(h.ro g e).1, fun hf => (hg g hf).2.2 e⟩⟩
/-- A literal in the second's place. -/
theorem Two.lit {w0 w1 wr : World} {Fs : List Nat} {bv rv : Value} {bs rs : List Int} (h : Two w0 w1 Fs bv rv bs rs wr) (ps : List Int) (hp : ps.length ≤ 1000) : Two w0 w1 Fs bv (.slice (some ⟨wr.heap.size, 0, none⟩) ps.length ps.length) bs ps (wr.alloc (.cells (ps.map u8v).toArray 5)) := by
  have ha := h.alloc (.cells (ps.map u8v).toArray 5)
  have hr := RowAt.lit wr (ps.map u8v).toArray 5 (by simp; omega)
  simp only [List.size_toArray, List.length_map] at hr
  have hk := h.k.size
  have hs := h.s
  refine ⟨ha.b, hr, ha.k, ha.f, ha.s, fun g e => ⟨(h.bo g e).1, (h.bo g e).2.1, fun e2 => ?_⟩, fun g e => ?_⟩
  · simp [Value.ownBlock] at e2
    have := h.b.lt e
    omega
  · simp [Value.ownBlock] at e
    exact ⟨by omega, fun hf => by have := (ha.f g hf).1; omega⟩
/-- More bytes behind the second row. -/
theorem Two.pushR {w0 w1 wr w2 : World} {Fs : List Nat} {bv rv : Value} {bs rs : List Int} {g n cap : Nat} {zs : List Value} (h : Two w0 w1 Fs bv rv bs rs wr) (ps : List Int) (hz : zs = (rs ++ ps).map u8v) (hrow : RowAt w2 5 (.slice (some ⟨g, 0, none⟩) n cap) zs) (hg : wr.grownBy w2 rv.ownBlock) (ho : rv.ownBlock = some g ∨ wr.heap.size ≤ g) :
    Two w0 w1 Fs bv (.slice (some ⟨g, 0, none⟩) n cap) bs (rs ++ ps) w2 := by
  subst hz
  have hk := h.k.size
  have hs := h.s
  refine ⟨h.b.same fun x e => hg.block x (h.b.lt e) (fun e2 => (h.bo x e).2.2 e2.symm), hrow, h.k.grown hg hk (fun x e => (h.ro x e).1), fun f hf => ⟨(h.f f hf).1, ?_⟩, Nat.le_trans hs hg.size, fun x e => ⟨(h.bo x e).1, (h.bo x e).2.1, fun e2 => ?_⟩, fun x e => ?_⟩
  · exact (hg.block f (by have := (h.f f hf).1; omega) (fun e => (h.ro f e.symm).2 hf)).trans (h.f f hf).2
  · simp [Value.ownBlock] at e2
    subst e2
    rcases ho with h1 | h1
    · exact (h.bo g e).2.2 h1
    · have := h.b.lt e; omega
  · simp [Value.ownBlock] at e
    subst e
    rcases ho with h1 | h1
    · exact h.ro g h1
    · exact ⟨by omega, fun hf => by have := (h.f g hf).1; omega⟩
/-- More bytes behind the first row. -/
theorem Two.pushB {w0 w1 wr w2 : World} {Fs : List Nat} {bv rv : Value} {bs rs : List Int} {g n cap : Nat} {zs : List Value} (h : Two w0 w1 Fs bv rv bs rs wr) (ps : List Int) (hz : zs = (bs ++ ps).map u8v) (hrow : RowAt w2 5 (.slice (some ⟨g, 0, none⟩) n cap) zs) (hg : wr.grownBy w2 bv.ownBlock) (ho : bv.ownBlock = some g ∨ wr.heap.size ≤ g) :
    Two w0 w1 Fs (.slice (some ⟨g, 0, none⟩) n cap) rv (bs ++ ps) rs w2 := by
  subst hz
  have hk := h.k.size
  have hs := h.s
  refine ⟨hrow, h.r.same fun x e => hg.block x (h.r.lt e) (fun e2 => (h.bo x e2.symm).2.2 e), h.k.grown hg hk (fun x e => (h.bo x e).1), fun f hf => ⟨(h.f f hf).1, ?_⟩, Nat.le_trans hs hg.size, fun x e => ?_, h.ro⟩
  · exact (hg.block f (by have := (h.f f hf).1; omega) (fun e => (h.bo f e.symm).2.1 hf)).trans (h.f f hf).2
  · simp [Value.ownBlock] at e
    subst e
    rcases ho with h1 | h1
    · exact h.bo g h1
    · exact ⟨by omega, fun hf => by have := (h.f g hf).1; omega, fun e2 => by have := h.r.lt e2; omega⟩

/-- A block that is neither row's stays behind an append to the second. -/
theorem Two.keepR {w0 w1 wr w2 : World} {Fs : List Nat} {bv rv : Value} {bs rs : List Int} (h : Two w0 w1 Fs bv rv bs rs wr) {W : World} (hg : W.grownBy w2 rv.ownBlock) {b : Nat} (h1 : wr.heap.size ≤ b) (h2 : b < W.heap.size) : w2.heap[b]? = W.heap[b]? :=
  hg.block b h2 (fun e => by have := h.r.lt e.symm; omega)

theorem news_at (w : World) (x : Int) (b : Nat) (hb : b = w.heap.size) : ∀ j u, ([x].map u8v)[j]? = some u → (w.alloc (.cells #[.int .u8 x] 5)).cell? ((⟨b, 0, none⟩ : Addr).add j) = some u := by
  subst hb
  exact news_lit w [.int .u8 x] 5

theorem news_list (w : World) (ps : List Int) (b : Nat) (hb : b = w.heap.size) : ∀ j u, (ps.map u8v)[j]? = some u → (w.alloc (.cells (ps.map u8v).toArray 5)).cell? ((⟨b, 0, none⟩ : Addr).add j) = some u := by
  subst hb
  exact news_lit w (ps.map u8v) 5
/-- More blocks that stay as they are: new ones. -/
theorem Two.more {w0 w1 wr w' : World} {Fs : List Nat} {bv rv : Value} {bs rs : List Int} (h : Two w0 w1 Fs bv rv bs rs wr) (hb : Below wr.heap.size wr w') (Gs : List Nat) (hG : ∀ f ∈ Gs, wr.heap.size ≤ f ∧ f < w'.heap.size) : Two w0 w' (Fs ++ Gs) bv rv bs rs w' := by
  have h' := h.below hb
  refine h'.again fun f hf => ?_
  rcases List.mem_append.1 hf with h1 | h1
  · exact ⟨Nat.lt_of_lt_of_le (h'.f f h1).1 h'.s, fun e => (h.bo f e).2.1 h1, fun e => (h.ro f e).2 h1⟩
  · obtain ⟨h2, h3⟩ := hG f h1
    exact ⟨h3, fun e => by have := h.b.lt e; omega, fun e => by have := h.r.lt e; omega⟩
theorem sofL_eq (gray : Bool) (wd ht : Nat) (hd : wd ≤ 100 ∧ ht ≤ 100) : sofL gray wd ht = [8, (ht : Int) / 256, (ht : Int), (wd : Int) / 256, (wd : Int), if gray then 1 else 3] ++ (if gray then [1, 17, 0] else [1, 34, 0, 2, 17, 1, 3, 17, 1]) := by
  unfold sofL
  rw [Int.emod_eq_of_lt (by omega) (by omega), Int.emod_eq_of_lt (by omega) (by omega)]

/-- One of four. -/
def fn4 {α : Type} (a b c d : α) : Nat → α
  | 0 => a
  | 1 => b
  | 2 => c
  | _ => d
/-- The four codes in memory. -/
def CodesAll (C : Nat → Nat) (V : Nat → Value) (W : World) : Prop := ∀ t, t < 4 → CodesAt W (C t) (V t) (cntF t 16) (codeOf t) (fun s => wideOf t s) ∧ RowAt W 3 (V t) ((sgL t).map i64v)
theorem CodesAll.same {C : Nat → Nat} {V : Nat → Value} {W W' : World} (h : CodesAll C V W) (f : ∀ t, t < 4 → W'.heap[C t]? = W.heap[C t]? ∧ ∀ g, (V t).ownBlock = some g → W'.heap[g]? = W.heap[g]?) : CodesAll C V W' :=
  fun t ht => ⟨(h t ht).1.same (f t ht).1, (h t ht).2.same (f t ht).2⟩
/-- The blocks of the four codes. -/
def codeBks (C : Nat → Nat) (V : Nat → Value) : List Nat := [C 0, C 1, C 2, C 3] ++ ((V 0).ownBlock.toList ++ ((V 1).ownBlock.toList ++ ((V 2).ownBlock.toList ++ (V 3).ownBlock.toList)))
theorem codeBks_C (C : Nat → Nat) (V : Nat → Value) (t : Nat) (ht : t < 4) : C t ∈ codeBks C V := by
  unfold codeBks
  match t, ht with
  | 0, _ => simp
  | 1, _ => simp
  | 2, _ => simp
  | 3, _ => simp
theorem codeBks_V (C : Nat → Nat) (V : Nat → Value) (t : Nat) (ht : t < 4) (g : Nat) (hg : (V t).ownBlock = some g) : g ∈ codeBks C V := by
  unfold codeBks
  match t, ht with
  | 0, _ => simp [hg]
  | 1, _ => simp [hg]
  | 2, _ => simp [hg]
  | 3, _ => simp [hg]
theorem cntF_get (t n : Nat) (hn : n < 16) : cntF t 16 (n + 1) = (cntN t n : Int) := by
  unfold cntF
  rw [if_pos (by omega), Nat.add_sub_cancel]
theorem cntL_take (t n : Nat) (ht : t < 4) (hn : n < 16) : (cntL t).take (n + 1) = (cntL t).take n ++ [(cntN t n : Int)] := by
  have hl := (std_total t ht).2.2.2
  have hb := (cnt_bd t ht n hn).2.1
  rw [List.take_succ_eq_append_getElem (by omega)]
  rw [List.getD_eq_getElem?_getD, List.getElem?_eq_getElem (by omega), Option.getD_some] at hb
  rw [hb]
theorem sgL_take (t n : Nat) (ht : t < 4) (hn : n < (sgL t).length) : (sgL t).take (n + 1) = (sgL t).take n ++ [(sgN t n : Int)] := by
  have hb := (sg_bd t ht n hn).2.1
  rw [List.take_succ_eq_append_getElem hn]
  rw [List.getD_eq_getElem?_getD, List.getElem?_eq_getElem hn, Option.getD_some] at hb
  rw [hb]
/-- The four codes, one behind the other. -/
theorem codes_join {w0 w1 w2 w3 w4 : World} {C0 C1 C2 C3 : Nat} {v0 v1 v2 v3 : Value}
    (h0 : CodesAt w1 C0 v0 (cntF 0 16) (codeOf 0) (fun s => wideOf 0 s) ∧ RowAt w1 3 v0 ((sgL 0).map i64v)) (b1 : Below w1.heap.size w1 w2) (h1 : CodesAt w2 C1 v1 (cntF 1 16) (codeOf 1) (fun s => wideOf 1 s) ∧ RowAt w2 3 v1 ((sgL 1).map i64v)) (b2 : Below w2.heap.size w2 w3)
    (h2 : CodesAt w3 C2 v2 (cntF 2 16) (codeOf 2) (fun s => wideOf 2 s) ∧ RowAt w3 3 v2 ((sgL 2).map i64v)) (b3 : Below w3.heap.size w3 w4) (h3 : CodesAt w4 C3 v3 (cntF 3 16) (codeOf 3) (fun s => wideOf 3 s) ∧ RowAt w4 3 v3 ((sgL 3).map i64v))
    (b0 : Below w0.heap.size w0 w1) (k0 : w0.heap.size ≤ C0 ∧ ∀ g, v0.ownBlock = some g → w0.heap.size ≤ g) (k1 : w1.heap.size ≤ C1 ∧ ∀ g, v1.ownBlock = some g → w1.heap.size ≤ g) (k2 : w2.heap.size ≤ C2 ∧ ∀ g, v2.ownBlock = some g → w2.heap.size ≤ g) (k3 : w3.heap.size ≤ C3 ∧ ∀ g, v3.ownBlock = some g → w3.heap.size ≤ g) :
    CodesAll (fn4 C0 C1 C2 C3) (fn4 v0 v1 v2 v3) w4 ∧ Below w0.heap.size w0 w4 ∧ ∀ f ∈ codeBks (fn4 C0 C1 C2 C3) (fn4 v0 v1 v2 v3), w0.heap.size ≤ f ∧ f < w4.heap.size := by
  have s0 := b0.size
  have s1 := b1.size
  have s2 := b2.size
  have s3 := b3.size
  have mv : ∀ {u u' : World} {C : Nat} {v : Value} {a b c : Nat → Int} {xs : List Value}, Below u.heap.size u u' → CodesAt u C v a b c ∧ RowAt u 3 v xs → CodesAt u' C v a b c ∧ RowAt u' 3 v xs := fun hb h => ⟨h.1.same (hb.block _ h.1.lt), rowBelow h.2 hb⟩
  have lt : ∀ {u u' : World} {C : Nat} {v : Value} {a b c : Nat → Int} {xs : List Value}, CodesAt u C v a b c ∧ RowAt u 3 v xs → u.heap.size ≤ u'.heap.size → C < u'.heap.size ∧ ∀ g, v.ownBlock = some g → g < u'.heap.size := fun h hs => ⟨Nat.lt_of_lt_of_le h.1.lt hs, fun g e => Nat.lt_of_lt_of_le (h.2.lt e) hs⟩
  refine ⟨fun t ht => ?_, b0.trans ((b1.trans ((b2.trans (b3.mono s2)).mono s1)).mono s0), fun f hf => ?_⟩
  · match t, ht with
    | 0, _ => exact mv b3 (mv b2 (mv b1 h0))
    | 1, _ => exact mv b3 (mv b2 h1)
    | 2, _ => exact mv b3 h2
    | 3, _ => exact h3
  · obtain ⟨l0, l0'⟩ := lt (u' := w4) h0 (by omega)
    obtain ⟨l1, l1'⟩ := lt (u' := w4) h1 (by omega)
    obtain ⟨l2, l2'⟩ := lt (u' := w4) h2 (by omega)
    obtain ⟨l3, l3'⟩ := lt (u' := w4) h3 (by omega)
    simp only [codeBks, fn4, List.mem_append, List.mem_cons, List.not_mem_nil, or_false, Option.mem_toList] at hf
    rcases hf with (rfl | rfl | rfl | rfl) | hf | hf | hf | hf
    · exact ⟨k0.1, l0⟩
    · exact ⟨by omega, l1⟩
    · exact ⟨by omega, l2⟩
    · exact ⟨by omega, l3⟩
    · exact ⟨k0.2 f hf, l0' f hf⟩
    · exact ⟨by have := k1.2 f hf; omega, l1' f hf⟩
    · exact ⟨by have := k2.2 f hf; omega, l2' f hf⟩
    · exact ⟨by have := k3.2 f hf; omega, l3' f hf⟩

/-- What segment leaves: a new row with its cells. -/
def SegRes (w0 w1 : World) (Fs : List Nat) (bv rv : Value) (bs rs xs : List Int) (e : Ending) (w' : World) : Prop :=
  ∃ g cap, e = .returned (.slice (some ⟨g, 0, none⟩) xs.length cap) ∧ Two w0 w1 Fs bv rv bs rs w' ∧ ∀ j u, (xs.map u8v)[j]? = some u → w'.cell? ((⟨g, 0, none⟩ : Addr).add j) = some u
theorem Two.seg {w0 w1 wr : World} {Fs : List Nat} {bv rv : Value} {bs rs : List Int} (h : Two w0 w1 Fs bv rv bs rs wr) (m : Int) (hn : 0 < rs.length) (hl : rs.length ≤ 60000) : Calls Tryd.prog 20 #[.int .u8 m, rv] wr (SegRes w0 w1 Fs bv rv bs rs (segOf m rs)) := by
  refine (segment_any wr m rv rs h.r hn hl).mono ?_
  rintro e w' ⟨v', rfl, hr, hb, _⟩
  have hpos : 0 < ((segOf m rs).map u8v).length := by simp [segOf]
  obtain ⟨g, cap, rfl, _, hc⟩ := hr.news hpos
  rw [List.length_map]
  exact ⟨g, cap, rfl, h.below hb, hc⟩

/-- The boxes of the parameters, and the two tables. -/
structure EcMem (w : World) (A T : Nat) (fid : FuncId) (c1 c2 : Value) (wd ht : Nat) (cT : Array Value) (W : World) : Prop where
  wc : W.cell? ⟨A, 0, none⟩ = some (.int .i64 wd)
  hc : W.cell? ⟨A + 1, 0, none⟩ = some (.int .i64 ht)
  ac : W.cell? ⟨A + 1 + 1, 0, none⟩ = some (.func (.func fid) #[] #[c1, c2])
  fc : W.cell? ⟨A + 1 + 1 + 1, 0, none⟩ = some (.func (.func 13) #[] #[])
  t : W.heap[T]? = some (.cells cT 62 (0, 0))
  lt : A + 1 + 1 + 1 < T
theorem EcMem.same {w : World} {A T : Nat} {fid : FuncId} {c1 c2 : Value} {wd ht : Nat} {cT : Array Value} {W W' : World} (h : EcMem w A T fid c1 c2 wd ht cT W) (f : ∀ b ∈ [A, A + 1, A + 1 + 1, A + 1 + 1 + 1, T], W'.heap[b]? = W.heap[b]?) : EcMem w A T fid c1 c2 wd ht cT W' :=
  ⟨(World.cell?_of_block (a := ⟨A, 0, none⟩) (f _ (by simp))).trans h.wc, (World.cell?_of_block (a := ⟨A + 1, 0, none⟩) (f _ (by simp))).trans h.hc, (World.cell?_of_block (a := ⟨A + 1 + 1, 0, none⟩) (f _ (by simp))).trans h.ac, (World.cell?_of_block (a := ⟨A + 1 + 1 + 1, 0, none⟩) (f _ (by simp))).trans h.fc, (f _ (by simp)).trans h.t, h.lt⟩
theorem ec_start (w w1 w2 : World) (fid : FuncId) (c1 c2 : Value) (wd ht : Nat) (cT : Array Value)
    (h1 : Below ((((w.alloc (.cells #[.int .i64 wd] 3)).alloc (.cells #[.int .i64 ht] 3)).alloc (.cells #[.func (.func fid) #[] #[c1, c2]] 33)).alloc (.cells #[.func (.func 13) #[] #[]] 41)).heap.size ((((w.alloc (.cells #[.int .i64 wd] 3)).alloc (.cells #[.int .i64 ht] 3)).alloc (.cells #[.func (.func fid) #[] #[c1, c2]] 33)).alloc (.cells #[.func (.func 13) #[] #[]] 41)) w1)
    (h2 : Below w1.heap.size w1 w2) : EcMem w w.heap.size w2.heap.size fid c1 c2 wd ht cT (((w2.alloc (.cells cT 62)).alloc (.cells #[.int .u8 255, .int .u8 216] 5)).alloc (.cells #[] 5)) ∧
      Two w (((w2.alloc (.cells cT 62)).alloc (.cells #[.int .u8 255, .int .u8 216] 5)).alloc (.cells #[] 5)) [w.heap.size, w.heap.size + 1, w.heap.size + 1 + 1, w.heap.size + 1 + 1 + 1, w2.heap.size] (.slice (some ⟨w2.heap.size + 1, 0, none⟩) 2 2) (.slice (some ⟨w2.heap.size + 1 + 1, 0, none⟩) 0 0) [255, 216] [] (((w2.alloc (.cells cT 62)).alloc (.cells #[.int .u8 255, .int .u8 216] 5)).alloc (.cells #[] 5)) := by
  obtain ⟨V, hV⟩ : ∃ V, V = (((w.alloc (.cells #[.int .i64 wd] 3)).alloc (.cells #[.int .i64 ht] 3)).alloc (.cells #[.func (.func fid) #[] #[c1, c2]] 33)).alloc (.cells #[.func (.func 13) #[] #[]] 41) := ⟨_, rfl⟩
  rw [← hV] at h1
  have hVs : V.heap.size = w.heap.size + 4 := by rw [hV]; simp
  have hbV : Below w.heap.size w V := by rw [hV]; exact ((((Below.refl _ _).alloc (Nat.le_refl _) _).alloc (by simp) _).alloc (by simp; omega) _).alloc (by simp; omega) _
  have v0 : V.cell? ⟨w.heap.size, 0, none⟩ = some (.int .i64 wd) := by
    rw [hV]; refine past1 (past1 (past1 ?_ _) _) _
    rw [cell_of_row _ _ _ _ 3 (0, 0) (heap_alloc_new _ _)]; rfl
  have nx : ∀ (u : World) (c : Value) (t : TypeId) (n : Nat), u.heap.size = n → (u.alloc (.cells #[c] t)).cell? ⟨n, 0, none⟩ = some c := fun u c t n hn => by
    subst hn; rw [cell_of_row _ _ _ _ t (0, 0) (heap_alloc_new _ _)]; rfl
  have v1 : V.cell? ⟨w.heap.size + 1, 0, none⟩ = some (.int .i64 ht) := by
    rw [hV]; exact past1 (past1 (nx _ _ _ _ (by simp)) _) _
  have v2 : V.cell? ⟨w.heap.size + 1 + 1, 0, none⟩ = some (.func (.func fid) #[] #[c1, c2]) := by
    rw [hV]; exact past1 (nx _ _ _ _ (by simp)) _
  have v3 : V.cell? ⟨w.heap.size + 1 + 1 + 1, 0, none⟩ = some (.func (.func 13) #[] #[]) := by
    rw [hV]; exact nx _ _ _ _ (by simp)
  clear hV
  have hs1 := h1.size
  have hs2 := h2.size
  have hb2 : Below w.heap.size w w2 := hbV.trans ((h1.mono hbV.size).trans (h2.mono (by omega)))
  have hk2 : Below V.heap.size V w2 := h1.trans (h2.mono hs1)
  have c2' : ∀ {b j : Nat} {v : Value}, V.cell? ⟨b, j, none⟩ = some v → ∀ A B C, (((w2.alloc A).alloc B).alloc C).cell? ⟨b, j, none⟩ = some v := fun {b j v} h A B C => past1 (past1 (past1 (cellBelow h hk2) A) B) C
  have hT : (((w2.alloc (.cells cT 62)).alloc (.cells #[.int .u8 255, .int .u8 216] 5)).alloc (.cells #[] 5)).heap[w2.heap.size]? = some (.cells cT 62 (0, 0)) := by
    rw [heap_alloc_old _ _ (by simp; omega), heap_alloc_old _ _ (by simp)]; exact heap_alloc_new _ _
  refine ⟨⟨c2' v0 _ _ _, c2' v1 _ _ _, c2' v2 _ _ _, c2' v3 _ _ _, hT, by omega⟩, ⟨?_, ?_, ((hb2.alloc (by omega) _).alloc (by simp; omega) _).alloc (by simp; omega) _, fun f hf => ⟨?_, rfl⟩, Nat.le_refl _, fun g e => ?_, fun g e => ?_⟩⟩
  · have := (RowAt.lit (w2.alloc (.cells cT 62)) #[.int .u8 255, .int .u8 216] 5 (by simp)).alloc (.cells #[] 5)
    rwa [show (w2.alloc (.cells cT 62)).heap.size = w2.heap.size + 1 by simp] at this
  · have := RowAt.lit ((w2.alloc (.cells cT 62)).alloc (.cells #[.int .u8 255, .int .u8 216] 5)) #[] 5 (by simp)
    rwa [show ((w2.alloc (.cells cT 62)).alloc (.cells #[.int .u8 255, .int .u8 216] 5)).heap.size = w2.heap.size + 1 + 1 by simp] at this
  · simp at hf
    simp
    omega
  · simp [Value.ownBlock] at e ⊢
    omega
  · simp [Value.ownBlock] at e ⊢
    omega

/-! The tables' bytes. -/
def dqtK (q : Int) : Nat → List Int
  | 0 => []
  | k + 1 => dqtK q k ++ ((k : Int) :: tabL q k)
theorem dqtK_two (q : Int) : dqtK q 2 = dqtL q := by simp [dqtK, dqtL]
theorem tabL_take (q : Int) (c n : Nat) (hn : n < 64) : (tabL q c).take (n + 1) = (tabL q c).take n ++ [qt q c n] := by
  rw [List.take_succ_eq_append_getElem (by rw [tabL_len]; exact hn)]
  simp [tabL]
theorem dqtK_len (q : Int) (k : Nat) : (dqtK q k).length = 65 * k := by
  induction k with
  | zero => rfl
  | succ k ih => simp only [dqtK, List.length_append, List.length_cons, tabL_len, ih]; omega
theorem qt_u8 (q : Int) (c n : Nat) : IntKind.u8.wrap (qt q c n) = qt q c n := by
  have := qt_bd q c n
  show qt q c n % 256 = qt q c n
  omega
theorem index60 (c : Array Value) (k : Nat) (v : Value) (hk : k < 64) (hc : c[k]? = some v) (w : World) : (Instr.index 60 (.agg c) (.int .i64 (k : Int))).run Tryd.prog w = .ok v w := by
  have hu : Tryd.prog.underlying 60 = some (.array 64 3) := by kernel_rfl
  have hs : (sizeOf 3).run Tryd.prog w = .ok 1 w := by kernel_rfl
  simp [Instr.index, asIntOf, run_underlying hu, hs, part, hc]
  intro h
  omega
/-- The two tables as one array. -/
def twoF (f g : Nat → Int) (m : Nat) : Int := if m < 64 then f m else g (m - 64)
theorem built62 (f g : Nat → Int) : Tryd.prog.built 62 [(0, .agg (arrC 64 f)), (1, .agg (arrC 64 g))] = some (arrC 128 (twoF f g)) := by kernel_rfl
theorem info62 : (Tryd.prog.info? 62).map (·.size) = some 128 := by kernel_rfl
theorem zero62 : ∀ w, (zeroValue 62).run Tryd.prog w = .ok (.agg (arrC 128 fun _ => 0)) w :=
  (zero_of_info (P := Tryd.prog) (t := 62) (v := .agg (arrC 128 fun _ => 0)) (n := 128) (by kernel_rfl)).1
theorem idx62_0 (f g : Nat → Int) (w : World) : (Instr.index 62 (.agg (arrC 128 (twoF f g))) (.int .i64 ((0 : Nat) : Int))).run Tryd.prog w = .ok (.agg (arrC 64 f)) w := by kernel_rfl
theorem idx62_1 (f g : Nat → Int) (w : World) : (Instr.index 62 (.agg (arrC 128 (twoF f g))) (.int .i64 ((1 : Nat) : Int))).run Tryd.prog w = .ok (.agg (arrC 64 g)) w := by kernel_rfl
theorem idx62 (q : Int) (k : Nat) (hk : k < 2) (w : World) : (Instr.index 62 (.agg (arrC 128 (twoF (qt q 0) (qt q 1)))) (.int .i64 (k : Int))).run Tryd.prog w = .ok (.agg (arrC 64 (qt q k))) w := by
  match k, hk with
  | 0, _ => exact idx62_0 _ _ w
  | 1, _ => exact idx62_1 _ _ w

/-! The four codes' pointers. -/
def ptrC (C : Nat → Nat) : Array Value := #[.pointer (some ⟨C 0, 0, none⟩), .pointer (some ⟨C 1, 0, none⟩), .pointer (some ⟨C 2, 0, none⟩), .pointer (some ⟨C 3, 0, none⟩)]
theorem idx66_0 (C : Nat → Nat) (w : World) : (Instr.index 66 (.agg (ptrC C)) (.int .i64 ((0 : Nat) : Int))).run Tryd.prog w = .ok (.pointer (some ⟨C 0, 0, none⟩)) w := by kernel_rfl
theorem idx66_1 (C : Nat → Nat) (w : World) : (Instr.index 66 (.agg (ptrC C)) (.int .i64 ((1 : Nat) : Int))).run Tryd.prog w = .ok (.pointer (some ⟨C 1, 0, none⟩)) w := by kernel_rfl
theorem idx66_2 (C : Nat → Nat) (w : World) : (Instr.index 66 (.agg (ptrC C)) (.int .i64 ((2 : Nat) : Int))).run Tryd.prog w = .ok (.pointer (some ⟨C 2, 0, none⟩)) w := by kernel_rfl
theorem idx66_3 (C : Nat → Nat) (w : World) : (Instr.index 66 (.agg (ptrC C)) (.int .i64 ((3 : Nat) : Int))).run Tryd.prog w = .ok (.pointer (some ⟨C 3, 0, none⟩)) w := by kernel_rfl
theorem idx66 (C : Nat → Nat) (k : Nat) (hk : k < 4) (w : World) : (Instr.index 66 (.agg (ptrC C)) (.int .i64 (k : Int))).run Tryd.prog w = .ok (.pointer (some ⟨C k, 0, none⟩)) w := by
  match k, hk with
  | 0, _ => exact idx66_0 C w
  | 1, _ => exact idx66_1 C w
  | 2, _ => exact idx66_2 C w
  | 3, _ => exact idx66_3 C w
theorem tbB_eq : ∀ k, k < 4 → bits BinOp.or IntKind.i64 (((k : Nat) : Int) % 2 * 16) (((k : Nat) : Int) / 2) = tbB k := by decide +kernel
theorem tbB_u8 : ∀ k, k < 4 → IntKind.u8.wrap (tbB k) = tbB k := by decide +kernel

theorem info66 (C : Nat → Nat) : (Tryd.prog.info? 66).map (·.size) = some (ptrC C).size := by
  show (Tryd.prog.info? 66).map (·.size) = some 4
  kernel_rfl
theorem ec_codes {w W3 w11 x4 : World} {Fs : List Nat} {bv rv : Value} {bs rs : List Int} {C : Nat → Nat} {V : Nat → Value} (h : Two w W3 Fs bv rv bs rs w11) (hb : Below w11.heap.size w11 x4) (hc : CodesAll C V x4) (hf : ∀ f ∈ codeBks C V, w11.heap.size ≤ f ∧ f < x4.heap.size) :
    Two w (x4.alloc (.cells (ptrC C) 66)) (Fs ++ (x4.heap.size :: codeBks C V)) bv rv bs rs (x4.alloc (.cells (ptrC C) 66)) ∧ CodesAll C V (x4.alloc (.cells (ptrC C) 66)) ∧ (x4.alloc (.cells (ptrC C) 66)).heap[x4.heap.size]? = some (.cells (ptrC C) 66 (0, 0)) ∧ ∀ f ∈ Fs, (x4.alloc (.cells (ptrC C) 66)).heap[f]? = W3.heap[f]? := by
  have hb' : Below w11.heap.size w11 (x4.alloc (.cells (ptrC C) 66)) := hb.alloc hb.size _
  refine ⟨h.more hb' _ (fun f hm => ?_), hc.same fun t ht => ⟨heap_alloc_old _ _ (hf _ (codeBks_C C V t ht)).2, fun g hg => heap_alloc_old _ _ (hf _ (codeBks_V C V t ht g hg)).2⟩, heap_alloc_new _ _, fun f hm => ((h.below hb').f f hm).2⟩
  rcases List.mem_cons.1 hm with rfl | hm
  · exact ⟨hb.size, by simp⟩
  · have := hf f hm
    exact ⟨this.1, by simp; omega⟩

theorem codes_at {w W5 wr : World} {Fs Gs : List Nat} {Ab : Nat} {bv rv : Value} {bs rs : List Int} {C : Nat → Nat} {V : Nat → Value} (h : Two w W5 Gs bv rv bs rs wr) (hc : CodesAll C V W5) (hG : Gs = Fs ++ (Ab :: codeBks C V)) : CodesAll C V wr :=
  hc.same fun t ht => ⟨(h.f _ (by rw [hG]; simp [codeBks_C C V t ht])).2, fun g hg => (h.f _ (by rw [hG]; simp [codeBks_V C V t ht g hg])).2⟩
/-- What the head's loops read of one code. -/
theorem code_cells {C : Nat → Nat} {V : Nat → Value} {W : World} (h : CodesAll C V W) (k : Nat) (hk : k < 4) : (∀ n, n < 16 → W.cell? ⟨C k, n + 1, none⟩ = some (.int .i64 (cntN k n))) ∧ ∃ g cap, V k = .slice (some ⟨g, 0, none⟩) (sgL k).length cap ∧ W.cell? ⟨C k, 17, none⟩ = some (V k) ∧ ∀ i, i < (sgL k).length → W.cell? ⟨g, i, none⟩ = some (.int .i64 (sgN k i)) := by
  obtain ⟨h1, h2⟩ := h k hk
  refine ⟨fun n hn => by rw [h1.cnt (n + 1) (by omega), cntF_get k n hn], ?_⟩
  obtain ⟨g, cap, hv, _, hc⟩ := h2.news (by rw [List.length_map]; exact (std_total k hk).2.2.1)
  rw [List.length_map] at hv
  refine ⟨g, cap, hv, h1.sg, fun i hi => ?_⟩
  have hb := (sg_bd k hk i hi).2.1
  rw [List.getD_eq_getElem?_getD, List.getElem?_eq_getElem hi, Option.getD_some] at hb
  have := hc i (i64v (sgN k i)) (by rw [List.getElem?_map, List.getElem?_eq_getElem hi, hb]; rfl)
  rw [Addr.add_lit, Nat.zero_add] at this
  exact this

/-! The scan behind some blocks. -/
def lastF (a : Sc) (i : Nat) : Int := match i with | 0 => a.l0 | 1 => a.l1 | _ => a.l2
theorem put_last (Q : Nat → Nat → Int) (c q : Nat) (hc : c < 3) (d : Array Int) (a : Sc) : (putBlk Q c q d a).s = blockOut a.s q (lastF a c) (quantd (Q q) d) ∧ ∀ i, i < 3 → lastF (putBlk Q c q d a) i = upd (lastF a) c (quantd (Q q) d 0) i := by
  generalize hf : quantd (Q q) d = f
  match c, hc with
  | 0, _ => rw [putBlk0, hf]; refine ⟨rfl, fun i hi => ?_⟩; match i, hi with | 0, _ => rfl | 1, _ => rfl | 2, _ => rfl
  | 1, _ => rw [putB1, hf]; refine ⟨rfl, fun i hi => ?_⟩; match i, hi with | 0, _ => rfl | 1, _ => rfl | 2, _ => rfl
  | 2, _ => rw [putB2, hf]; refine ⟨rfl, fun i hi => ?_⟩; match i, hi with | 0, _ => rfl | 1, _ => rfl | 2, _ => rfl
theorem BlkMem.lastCongr {w : World} {fb T LB PB ZB ov A O : Nat} {v : Value} {Q : Nat → Nat → Int} {l m : Nat → Int} (h : BlkMem w fb T LB PB ZB ov A O v Q l) (e : ∀ i, i < 3 → m i = l i) : BlkMem w fb T LB PB ZB ov A O v Q m :=
  ⟨h.fc, h.tc, h.pc, h.zc, fun i hi => by rw [e i hi]; exact h.lc i hi, h.lf, h.pm, h.aw, h.nl, h.cl⟩

structure Bks where
  fb : Nat
  T : Nat
  LB : Nat
  PB : Nat
  ZB : Nat
  ov : Nat
  A : Nat
  O : Nat
  ab : Nat
  wb : Nat
  hb : Nat

structure ScanAt (w0 : World) (K : Bks) (fid : FuncId) (c1 c2 : Value) (wd ht : Nat) (Q : Nat → Nat → Int) (bv : Value) (head : List Int) (v : Value) (a : Sc) (wr : World) : Prop where
  o : OutAt wr K.O v a.s
  m : BlkMem wr K.fb K.T K.LB K.PB K.ZB K.ov K.A K.O v Q (lastF a)
  p : PartMem wr K.ab K.wb K.hb fid c1 c2 wd ht
  b : RowAt wr 5 bv (head.map u8v)
  k : Below w0.heap.size w0 wr
  aw : Away v [K.O, K.LB] wr ([K.ab, K.wb, K.hb] ++ bv.ownBlock.toList)
  fr : w0.heap.size ≤ K.O ∧ w0.heap.size ≤ K.LB
  bo : ∀ g, bv.ownBlock = some g → w0.heap.size ≤ g
  vo : ∀ g, v.ownBlock = some g → w0.heap.size ≤ g
theorem ScanAt.below {w0 wr w' : World} {K : Bks} {fid : FuncId} {c1 c2 : Value} {wd ht : Nat} {Q : Nat → Nat → Int} {bv : Value} {head : List Int} {v : Value} {a : Sc} (h : ScanAt w0 K fid c1 c2 wd ht Q bv head v a wr) (hb : Below wr.heap.size wr w') : ScanAt w0 K fid c1 c2 wd ht Q bv head v a w' :=
  ⟨h.o.below hb, h.m.step (Keeps.below hb _ _), h.p.below hb, rowBelow h.b hb, h.k.trans (hb.mono h.k.size), h.aw.step (Keeps.below hb _ _), h.fr, h.bo, h.vo⟩
def Scanned (w0 : World) (K : Bks) (fid : FuncId) (c1 c2 : Value) (wd ht : Nat) (Q : Nat → Nat → Int) (bv : Value) (head : List Int) (v : Value) (a' : Sc) (w : World) (e : Ending) (w' : World) : Prop :=
  e = .returned (.tuple #[]) ∧ ∃ v', ScanAt w0 K fid c1 c2 wd ht Q bv head v' a' w' ∧ Keeps [K.O, K.LB] v v' w w'
theorem ScanAt.put {w0 wr : World} {K : Bks} {fid : FuncId} {c1 c2 : Value} {wd ht : Nat} {Q : Nat → Nat → Int} {bv : Value} {head : List Int} {v : Value} {a : Sc} (h : ScanAt w0 K fid c1 c2 wd ht Q bv head v a wr) (c q : Nat) (d : Array Int) {n : Nat} (hok : a.Ok n) (hn : n ≤ 70000000) (hc : c < 3) (hq : q < 2)
    (hd : d.size = 64) (hb : ∀ k, k < 64 → (0 : Int) ≤ d[k]! ∧ d[k]! ≤ (255 : Int)) (hQ : ∀ q, q < 2 → ∀ j, j < 64 → 1 ≤ Q q j ∧ Q q j ≤ 255) :
    Calls Tryd.prog 25 #[.int .i64 c, .int .i64 q, .agg (d.map i32v), .pointer (some ⟨K.fb, 0, none⟩), .pointer (some ⟨K.T, 0, none⟩), .pointer (some ⟨K.LB, 0, none⟩), .pointer (some ⟨K.PB, 0, none⟩), .pointer (some ⟨K.ZB, 0, none⟩)] wr (Scanned w0 K fid c1 c2 wd ht Q bv head v (putBlk Q c q d a) wr) := by
  have hl : -1024 ≤ lastF a c ∧ lastF a c ≤ 1020 := by
    obtain ⟨⟨h0, h1, h2⟩, _⟩ := hok
    match c, hc with
    | 0, _ => exact h0
    | 1, _ => exact h1
    | 2, _ => exact h2
  refine (blkc_any wr K.fb K.T K.LB K.PB K.ZB K.ov K.A K.O v Q (lastF a) a.s c q d h.o h.m (by have := hok.n; omega) hc hq hb (blockFits d (Q q) (lastF a c) hd hb (hQ q hq) hl).1).mono ?_
  rintro e w' ⟨rfl, v', ho, hm, hk⟩
  obtain ⟨e1, e2⟩ := put_last Q c q hc d a
  have hs := h.k.size
  obtain ⟨f1, f2⟩ := h.fr
  have cc : ∀ m ∈ [K.ab, K.wb, K.hb] ++ bv.ownBlock.toList, w'.heap[m]? = wr.heap[m]? := fun m hm => by
    obtain ⟨h1, h2, h3⟩ := h.aw m hm
    exact hk.block m h1 h2 h3
  refine ⟨rfl, v', ⟨?_, hm.lastCongr e2, ⟨?_, ?_, ?_⟩, h.b.same fun g hg => cc g (by simp [hg]), ?_, h.aw.step hk, h.fr, h.bo, fun g hg => ?_⟩, hk⟩
  · rw [e1]; exact ho
  · exact (World.cell?_of_block (a := ⟨K.ab, 0, none⟩) (cc K.ab (by simp))).trans h.p.ac
  · exact (World.cell?_of_block (a := ⟨K.wb, 0, none⟩) (cc K.wb (by simp))).trans h.p.wc
  · exact (World.cell?_of_block (a := ⟨K.hb, 0, none⟩) (cc K.hb (by simp))).trans h.p.hc
  · refine ⟨hk.os.trans h.k.os, hk.tape.trans h.k.tape, hk.output.trans h.k.output, Nat.le_trans hs hk.size, fun i hi => (hk.block i (by omega) (by simp; omega) (fun e => by have := h.vo i e; omega)).trans (h.k.block i hi)⟩
  · rcases hk.own g hg with h1 | h1
    · exact h.vo g h1
    · omega
theorem ScanAt.part {w0 wr : World} {K : Bks} {fid : FuncId} {c1 c2 : Value} {wd ht : Nat} {Q : Nat → Nat → Int} {bv : Value} {head : List Int} {v : Value} {a : Sc} (h : ScanAt w0 K fid c1 c2 wd ht Q bv head v a wr) (f0 f1 f2 : Nat → Nat → Int) (hen : Enters fid) (hat : AtSays w0 fid c1 c2 wd ht f0 f1 f2)
    (hd : 1 ≤ wd ∧ wd ≤ 100 ∧ 1 ≤ ht ∧ ht ≤ 100) (f : Nat → Nat → Int) (x y k : Nat) (hk : k < 3) (hf : f = fun x y => pick k (f0 x y) (f1 x y) (f2 x y)) (h8 : ∀ x y, 0 ≤ f x y ∧ f x y ≤ 255) (hx : x ≤ 200 ∧ y ≤ 200) :
    Calls Tryd.prog 29 #[.int .i64 x, .int .i64 y, .int .i64 k, .pointer (some ⟨K.ab, 0, none⟩), .pointer (some ⟨K.wb, 0, none⟩), .pointer (some ⟨K.hb, 0, none⟩)] wr fun e w' => e = .returned (.agg ((lumaB f wd ht x y).map i32v)) ∧ Below wr.heap.size wr w' := by
  refine (part_any w0 wr K.ab K.wb K.hb fid c1 c2 wd ht f0 f1 f2 x y k hk hen hat h.k h.p hd hx (fun x y => by have := h8 x y; rw [hf] at this; exact this)).mono ?_
  rintro e w' ⟨rfl, hb⟩
  refine ⟨?_, hb⟩
  unfold lumaB
  rw [arr32_blk, hf]

/-- The scan's beginning. -/
def ecBks (A T Ab n x : Nat) : Bks := ⟨A + 1 + 1 + 1, T, n + 1 + 1, x + 1, x, n + 1, Ab, n, A + 1 + 1, A, A + 1⟩
theorem ec_scan {w W5 wr x : World} {A T Ab n : Nat} {Fs Gs : List Nat} {fid : FuncId} {c1 c2 : Value} {wd ht : Nat} {cT zg : Array Value} {q : Int} {bv rv : Value} {bs rs : List Int} {C : Nat → Nat} {V : Nat → Value} (h : Two w W5 Gs bv rv bs rs wr) (hm : EcMem w A T fid c1 c2 wd ht cT W5) (hT : cT = arrC 128 (twoF (qt q 0) (qt q 1)))
    (hca : CodesAll C V W5) (hpc : W5.heap[Ab]? = some (.cells (ptrC C) 66 (0, 0))) (hF : Fs = [A, A + 1, A + 1 + 1, A + 1 + 1 + 1, T]) (hG : Gs = Fs ++ (Ab :: codeBks C V)) (hzg : zg = arrC 64 fun j => zzAt j) (hn : n = wr.heap.size)
    (hx : Below (((wr.alloc (.cells #[.slice none 0 0, .int .u32 0, .int .i64 0] 74)).alloc (.cells #[.pointer (some ⟨n, 0, none⟩)] 72)).alloc (.cells #[.int .i64 0, .int .i64 0, .int .i64 0] 75)).heap.size (((wr.alloc (.cells #[.slice none 0 0, .int .u32 0, .int .i64 0] 74)).alloc (.cells #[.pointer (some ⟨n, 0, none⟩)] 72)).alloc (.cells #[.int .i64 0, .int .i64 0, .int .i64 0] 75)) x) :
    ScanAt w (ecBks A T Ab n x.heap.size) fid c1 c2 wd ht (qt q) bv bs (.slice none 0 0) ⟨⟨[], 0, 0⟩, 0, 0, 0⟩ ((x.alloc (.cells zg 60)).alloc (.cells #[.func (.func 23) #[] #[.pointer (some ⟨n + 1, 0, none⟩), .pointer (some ⟨Ab, 0, none⟩)]] 78)) := by
  obtain ⟨u, hu⟩ : ∃ u, u = ((wr.alloc (.cells #[.slice none 0 0, .int .u32 0, .int .i64 0] 74)).alloc (.cells #[.pointer (some ⟨n, 0, none⟩)] 72)).alloc (.cells #[.int .i64 0, .int .i64 0, .int .i64 0] 75) := ⟨_, rfl⟩
  rw [← hu] at hx
  have hus : u.heap.size = n + 3 := by rw [hu, hn]; simp
  have hbu : Below wr.heap.size wr u := by rw [hu]; exact (((Below.refl _ _).alloc (Nat.le_refl _) _).alloc (by simp) _).alloc (by simp; omega) _
  have uO : u.heap[n]? = some (.cells #[.slice none 0 0, .int .u32 0, .int .i64 0] 74 (0, 0)) := by
    rw [hu, heap_alloc_old _ _ (by simp; omega), heap_alloc_old _ _ (by simp; omega), hn]; exact heap_alloc_new _ _
  have uv : u.heap[n + 1]? = some (.cells #[.pointer (some ⟨n, 0, none⟩)] 72 (0, 0)) := by
    rw [hu, heap_alloc_old _ _ (by simp; omega), hn]; exact heap_alloc2_new _ _ _
  have uL : u.heap[n + 1 + 1]? = some (.cells #[.int .i64 0, .int .i64 0, .int .i64 0] 75 (0, 0)) := by
    have := heap_alloc_new ((wr.alloc (.cells #[.slice none 0 0, .int .u32 0, .int .i64 0] 74)).alloc (.cells #[.pointer (some ⟨n, 0, none⟩)] 72)) (.cells #[.int .i64 0, .int .i64 0, .int .i64 0] 75)
    rw [← hu, show ((wr.alloc (.cells #[.slice none 0 0, .int .u32 0, .int .i64 0] 74)).alloc (.cells #[.pointer (some ⟨n, 0, none⟩)] 72)).heap.size = n + 1 + 1 by simp; omega] at this
    exact this
  clear hu
  obtain ⟨W, hW⟩ : ∃ W, W = (x.alloc (.cells zg 60)).alloc (.cells #[.func (.func 23) #[] #[.pointer (some ⟨n + 1, 0, none⟩), .pointer (some ⟨Ab, 0, none⟩)]] 78) := ⟨_, rfl⟩
  rw [← hW]
  have hxs := hx.size
  have hWs : W.heap.size = x.heap.size + 2 := by rw [hW]; simp
  have hbx : Below x.heap.size x W := by rw [hW]; exact ((Below.refl _ _).alloc (Nat.le_refl _) _).alloc (by simp) _
  have hbW : Below u.heap.size u W := hx.trans (hbx.mono hxs)
  have WZ : W.heap[x.heap.size]? = some (.cells zg 60 (0, 0)) := by
    rw [hW, heap_alloc_old _ _ (by simp)]; exact heap_alloc_new _ _
  have WP : W.heap[x.heap.size + 1]? = some (.cells #[.func (.func 23) #[] #[.pointer (some ⟨n + 1, 0, none⟩), .pointer (some ⟨Ab, 0, none⟩)]] 78 (0, 0)) := by
    rw [hW]; exact heap_alloc2_new _ _ _
  clear hW
  have WO := (hbW.block n (by omega)).trans uO
  have Wv := (hbW.block (n + 1) (by omega)).trans uv
  have WL := (hbW.block (n + 1 + 1) (by omega)).trans uL
  have hbr : Below wr.heap.size wr W := hbu.trans (hbW.mono (by omega))
  have old : ∀ f ∈ Gs, W.heap[f]? = W5.heap[f]? ∧ f < n := fun f hf => by
    obtain ⟨h1, h2⟩ := h.f f hf
    have := h.s
    exact ⟨(hbr.block f (by omega)).trans h2, by omega⟩
  have hmW := hm.same fun b hb => (old b (by rw [hG, hF]; exact List.mem_append_left _ hb)).1
  have hcW : CodesAll C V W := hca.same fun t ht => ⟨(old _ (by rw [hG]; simp [codeBks_C C V t ht])).1, fun g hg => (old _ (by rw [hG]; simp [codeBks_V C V t ht g hg])).1⟩
  have hpW : W.heap[Ab]? = some (.cells (ptrC C) 66 (0, 0)) := (old Ab (by rw [hG]; simp)).1.trans hpc
  have lA : Ab < n := (old Ab (by rw [hG]; simp)).2
  have lT : T < n := (old T (by rw [hG, hF]; simp)).2
  have l0 : A + 1 + 1 + 1 < n := (old (A + 1 + 1 + 1) (by rw [hG, hF]; simp)).2
  have lC : ∀ t, t < 4 → C t < n := fun t ht => (old _ (by rw [hG]; simp [codeBks_C C V t ht])).2
  have cA : ∀ t, t < 4 → W.cell? ⟨Ab, t, none⟩ = some (.pointer (some ⟨C t, 0, none⟩)) := fun t ht => by
    rw [cell_of_row _ _ _ _ 66 (0, 0) hpW]
    match t, ht with
    | 0, _ => rfl
    | 1, _ => rfl
    | 2, _ => rfl
    | 3, _ => rfl
  have ok0 : St.Ok ⟨[], 0, 0⟩ := ⟨by simp, by simp, by simp⟩
  have hown : ∀ k, (Value.slice none 0 0).ownBlock ≠ some k := fun k => by simp [Value.ownBlock]
  have hpm : PutMem W (n + 1) Ab n (.slice none 0 0) := by
    refine ⟨by rw [cell_of_row _ _ _ _ 72 (0, 0) Wv]; rfl, fun t ht => ⟨C t, cA t ht, by have := lC t ht; omega, hown _, by have := lC t ht; omega, fun s hs => ⟨(hcW t ht).1.cd s hs, (hcW t ht).1.wd s hs⟩⟩, ⟨by omega, by omega⟩, ⟨hown _, hown _⟩, ⟨by omega, by omega⟩⟩
  refine ⟨⟨?_, ?_, ?_, fun j _ => frozen_of_row _ _ _ _ 74 WO, RowAt.nil _ _, ok0, hown _⟩, ⟨hmW.fc, fun c hc j hj => ?_, ?_, fun j hj => ?_, fun i hi => ?_, fun i _ => frozen_of_row _ _ _ _ 75 WL, hpm, fun m hm => ?_, ⟨?_, ?_, ?_, ?_, ?_, ?_⟩, fun t ht => ?_⟩, ⟨hmW.ac, hmW.wc, hmW.hc⟩, rowBelow h.b hbr, h.k.trans (hbr.mono h.k.size), fun m hm => ?_, ⟨?_, ?_⟩, fun g hg => (h.bo g hg).1, fun g hg => absurd hg (hown g)⟩
  · show W.cell? ⟨n, 0, none⟩ = _
    rw [cell_of_row _ _ _ _ 74 (0, 0) WO]; rfl
  · show W.cell? ⟨n, 1, none⟩ = _
    rw [cell_of_row _ _ _ _ 74 (0, 0) WO]; rfl
  · show W.cell? ⟨n, 2, none⟩ = _
    rw [cell_of_row _ _ _ _ 74 (0, 0) WO]; rfl
  · show W.cell? ⟨T, c * 64 + j, none⟩ = _
    rw [cell_of_row _ _ _ _ 62 (0, 0) hmW.t, hT, arrC_get 128 _ (c * 64 + j) (by omega)]
    unfold twoF
    match c, hc with
    | 0, _ => rw [if_pos (by omega), Nat.zero_mul, Nat.zero_add]
    | 1, _ => rw [if_neg (by omega), Nat.one_mul, Nat.add_sub_cancel_left]
  · show W.cell? ⟨x.heap.size + 1, 0, none⟩ = _
    rw [cell_of_row _ _ _ _ 78 (0, 0) WP]; rfl
  · show W.cell? ⟨x.heap.size, j, none⟩ = _
    rw [cell_of_row _ _ _ _ 60 (0, 0) WZ, hzg, arrC_get 64 _ j hj]
  · show W.cell? ⟨n + 1 + 1, i, none⟩ = _
    rw [cell_of_row _ _ _ _ 75 (0, 0) WL]
    match i, hi with
    | 0, _ => rfl
    | 1, _ => rfl
    | 2, _ => rfl
  · simp only [ecBks, List.mem_cons, List.not_mem_nil, or_false] at hm
    refine ⟨?_, ?_, hown _⟩
    · rcases hm with rfl | rfl | rfl | rfl | rfl <;> omega
    · simp only [ecBks, List.mem_cons, List.not_mem_nil, or_false]
      rcases hm with rfl | rfl | rfl | rfl | rfl <;> omega
  · show A + 1 + 1 + 1 ≠ n + 1 + 1
    omega
  · show T ≠ n + 1 + 1
    omega
  · show x.heap.size + 1 ≠ n + 1 + 1
    omega
  · show x.heap.size ≠ n + 1 + 1
    omega
  · show n + 1 ≠ n + 1 + 1
    omega
  · show Ab ≠ n + 1 + 1
    omega
  · show W.cell? ⟨Ab, t, none⟩ ≠ some (.pointer (some ⟨n + 1 + 1, 0, none⟩))
    rw [cA t ht]
    have := lC t ht
    simp
  · refine ⟨?_, ?_, hown _⟩
    · rcases List.mem_append.1 hm with h1 | h1
      · simp only [ecBks, List.mem_cons, List.not_mem_nil, or_false] at h1
        rcases h1 with rfl | rfl | rfl <;> omega
      · have := h.b.lt (Option.mem_toList.1 h1)
        omega
    · simp only [ecBks, List.mem_cons, List.not_mem_nil, or_false]
      rcases List.mem_append.1 hm with h1 | h1
      · simp only [ecBks, List.mem_cons, List.not_mem_nil, or_false] at h1
        rcases h1 with rfl | rfl | rfl <;> omega
      · have := h.b.lt (Option.mem_toList.1 h1)
        omega
  · show w.heap.size ≤ n
    have := h.k.size
    omega
  · show w.heap.size ≤ n + 1 + 1
    have := h.k.size
    omega

/-- What Encoded leaves. -/
def EcPost (w : World) (file : List Int) (e : Ending) (w' : World) : Prop := ∃ g cap, e = .returned (.slice (some ⟨g, 0, none⟩) file.length cap) ∧ RowAt w' 5 (.slice (some ⟨g, 0, none⟩) file.length cap) (file.map u8v) ∧ Below w.heap.size w w'

/-- Behind the fill: the bits' row, the head's row. -/
theorem ScanAt.filled {w0 wr w' : World} {K : Bks} {fid : FuncId} {c1 c2 : Value} {wd ht : Nat} {Q : Nat → Nat → Int} {bv : Value} {head : List Int} {v v' : Value} {a : Sc} (h : ScanAt w0 K fid c1 c2 wd ht Q bv head v a wr) (hk : Keeps [K.O] v v' wr w') :
    w'.cell? ⟨K.ov, 0, none⟩ = some (.pointer (some ⟨K.O, 0, none⟩)) ∧ RowAt w' 5 bv (head.map u8v) ∧ Below w0.heap.size w0 w' ∧ (∀ g, v'.ownBlock = some g → bv.ownBlock ≠ some g) := by
  have hs := h.k.size
  obtain ⟨f1, f2⟩ := h.fr
  have away : ∀ g, bv.ownBlock = some g → g < wr.heap.size ∧ g ∉ [K.O] ∧ v.ownBlock ≠ some g := fun g hg => by
    obtain ⟨h1, h2, h3⟩ := h.aw g (by simp [hg])
    exact ⟨h1, by simp at h2 ⊢; exact h2.1, h3⟩
  refine ⟨(h.m.pm.step hk).oc, h.b.same fun g hg => ?_, ?_, fun g hg e => ?_⟩
  · obtain ⟨h1, h2, h3⟩ := away g hg
    exact hk.block g h1 h2 h3
  · exact ⟨hk.os.trans h.k.os, hk.tape.trans h.k.tape, hk.output.trans h.k.output, Nat.le_trans hs hk.size, fun i hi => (hk.block i (by omega) (by simp; omega) (fun e => by have := h.vo i e; omega)).trans (h.k.block i hi)⟩
  · obtain ⟨h1, h2, h3⟩ := away g e
    rcases hk.own g hg with h4 | h4
    · exact h3 h4
    · omega
theorem fill_len : ∀ (f : Nat) (s : St), (fillB f s).out.length ≤ s.out.length + 2 * f := by
  intro f
  induction f with
  | zero => intro s; simp [fillB]
  | succ f ih =>
    intro s
    simp only [fillB]
    split
    · have h1 := ih (pushBit s 1)
      have h2 := pushBit_len s 1
      omega
    · omega
/-- The last two appends. -/
theorem ec_last {w w40 w41 w42 : World} {bv : Value} {hd out file : List Int} {g1 g2 n1 n2 cap1 cap2 : Nat} {zs2 : List Value} {o : Obj} (hB : Below w.heap.size w w40) (hbo : ∀ g, bv.ownBlock = some g → w.heap.size ≤ g) (hg1 : w40.grownBy w41 bv.ownBlock) (ho1 : bv.ownBlock = some g1 ∨ w40.heap.size ≤ g1)
    (hr2 : RowAt w42 5 (.slice (some ⟨g2, 0, none⟩) n2 cap2) zs2) (hz2 : zs2 = (hd ++ out ++ [255, 217]).map u8v) (hn2 : n2 = hd.length + out.length + 2) (hg2 : (w41.alloc o).grownBy w42 (Value.slice (some ⟨g1, 0, none⟩) n1 cap1).ownBlock) (hf : hd ++ out ++ [255, 217] = file) : EcPost w file (.returned (.slice (some ⟨g2, 0, none⟩) n2 cap2)) w42 := by
  have hs := hB.size
  have hn : n2 = file.length := by rw [← hf, hn2]; simp; omega
  subst hn
  have h41 : Below w.heap.size w w41 := hB.grown hg1 hs hbo
  have hs41 := h41.size
  refine ⟨g2, cap2, rfl, by rw [hz2, hf] at hr2; exact hr2, (h41.alloc hs41 o).grown hg2 (by simp; omega) fun k hk => ?_⟩
  simp [Value.ownBlock] at hk
  subst hk
  rcases ho1 with h | h
  · exact hbo _ h
  · omega
theorem file_eq (gray : Bool) (q : Int) (f0 f1 f2 : Nat → Nat → Int) (wd ht : Nat) (s : St) (hs : s = fillB 8 (bitsOf gray q f0 f1 f2 wd ht)) : headL gray q wd ht ++ s.out ++ [255, 217] = fileOf gray q f0 f1 f2 wd ht := by rw [hs]; rfl

/-! Some bits are written. -/
def St.Some (s : St) : Prop := 0 < s.out.length ∨ 0 < s.n
theorem St.Some.bit (s : St) (b : Int) : (pushBit s b).Some := by
  unfold pushBit St.Some
  split
  · left
    have := stuffed_len (2 * s.acc + b)
    simp only [List.length_append]
    omega
  · right; simp
theorem St.Some.bits {s : St} (h : s.Some) (x : Int) : ∀ k, (pushBits s x k).Some := by
  intro k
  induction k generalizing s with
  | zero => exact h
  | succ k ih => exact ih (St.Some.bit _ _)
theorem St.Some.start (s : St) (x : Int) (k : Nat) (hk : 0 < k) : (pushBits s x k).Some := by
  obtain ⟨k, rfl⟩ : ∃ j, k = j + 1 := ⟨k - 1, by omega⟩
  exact (St.Some.bit s _).bits x k
theorem St.Some.sym {s : St} (h : s.Some) (t c : Nat) (x : Int) (k : Nat) : (sym s t c x k).Some := (h.bits _ _).bits _ _
theorem St.Some.zrl (t : Nat) {s : St} (h : s.Some) : ∀ j, (zrl t s j).Some := by
  intro j
  induction j with
  | zero => exact h
  | succ j ih => exact ih.bits _ _
theorem St.Some.acs (t : Nat) (f : Nat → Int) {s : St} (h : s.Some) : ∀ k, (acs t f s k).1.Some := by
  intro k
  induction k with
  | zero => exact h
  | succ k ih =>
    unfold YtlibflbpajeeeaaDoor.acs acStep
    split
    · exact ih
    · exact (St.Some.zrl t ih _).sym _ _ _ _
theorem wide_pos : ∀ c, c < 12 → 0 < wideOf 0 c := by decide +kernel
theorem block_some (s : St) (q : Nat) (last : Int) (f : Nat → Int) (h : s.Some ∨ (q = 0 ∧ (f 0 - last).natAbs < 2048)) : (blockOut s q last f).Some := by
  have h1 : (YtlibflbpajeeeaaDoor.sym s (2 * q) (size (f 0 - last)) (coded (f 0 - last)) (size (f 0 - last))).Some := by
    rcases h with h | ⟨rfl, h⟩
    · exact h.sym _ _ _ _
    · exact (St.Some.start s _ _ (wide_pos _ (by have := size_le (f 0 - last) 11 (by simpa using h); omega))).bits _ _
  unfold blockOut
  simp only
  split
  · exact (St.Some.acs _ _ h1 _).bits _ _
  · exact St.Some.acs _ _ h1 _
theorem put_some (Q : Nat → Nat → Int) (c q : Nat) (d : Array Int) {a : Sc} (h : a.s.Some) : (putBlk Q c q d a).s.Some := by
  obtain ⟨l, e⟩ := put_s Q c q d a
  rw [e]
  exact block_some _ _ _ _ (.inl h)
theorem iter_some (f : Nat → Sc → Sc) (hf : ∀ n a, a.s.Some → (f n a).s.Some) (n : Nat) (a : Sc) (h : a.s.Some ∨ (0 < n ∧ (f 0 a).s.Some)) : (iter f n a).s.Some := by
  induction n with
  | zero =>
    rcases h with h | h
    · exact h
    · omega
  | succ n ih =>
    show (f n (iter f n a)).s.Some
    rcases h with h | h
    · exact hf _ _ (ih (.inl h))
    · by_cases h0 : n = 0
      · subst h0; exact h.2
      · exact hf _ _ (ih (.inr ⟨by omega, h.2⟩))
set_option maxRecDepth 100000 in
theorem first_some (q : Int) (d : Array Int) (hd : d.size = 64) (hb : ∀ k, k < 64 → (0 : Int) ≤ d[k]! ∧ d[k]! ≤ (255 : Int)) (s : St) : (putBlk (qt q) 0 0 d ⟨s, 0, 0, 0⟩).s.Some := by
  have hf := (blockFits d (qt q 0) 0 hd hb (fun j _ => qt_bd q 0 j) (by omega)).1.dc
  obtain ⟨l, e⟩ : ∃ l, (putBlk (qt q) 0 0 d ⟨s, 0, 0, 0⟩).s = l ∧ l = blockOut s 0 0 (quantd (qt q 0) d) := ⟨_, putBlk0_s _ _ _ _, rfl⟩
  rw [e.1, e.2]
  generalize quantd (qt q 0) d = f at hf
  exact block_some _ _ _ _ (.inr ⟨rfl, hf⟩)
theorem bits_some (gray : Bool) (q : Int) (f0 f1 f2 : Nat → Nat → Int) (wd ht : Nat) (hd : 1 ≤ wd ∧ 1 ≤ ht) (h8 : ∀ x y, 0 ≤ f0 x y ∧ f0 x y ≤ 255) : (bitsOf gray q f0 f1 f2 wd ht).Some := by
  have hp : ∀ x y a, a.s.Some → (mcu gray (qt q) f0 f1 f2 wd ht x y a).s.Some := fun x y a h => by
    unfold mcu
    split
    · exact put_some _ _ _ _ h
    · exact put_some _ _ _ _ (put_some _ _ _ _ (iter_some _ (fun k a h => put_some _ _ _ _ h) 4 a (.inl h)))
  have h0 : (mcu gray (qt q) f0 f1 f2 wd ht 0 0 ⟨⟨[], 0, 0⟩, 0, 0, 0⟩).s.Some := by
    unfold mcu
    split
    · exact first_some q _ (blkA_size _) (lumaB_fits _ h8 _ _ _ _) _
    · exact put_some _ _ _ _ (put_some _ _ _ _ (iter_some _ (fun k a h => put_some _ _ _ _ h) 4 _ (.inr ⟨by omega, first_some q _ (blkA_size _) (lumaB_fits _ h8 _ _ _ _) _⟩)))
  have hst : 1 ≤ (if gray = true then 8 else 16) ∧ (if gray = true then 8 else 16) ≤ 16 := by split <;> omega
  unfold bitsOf
  generalize (if gray = true then 8 else 16) = st at hst
  have hpos : ∀ n, 1 ≤ n → 0 < (n + st - 1) / st := fun n hn => Nat.div_pos (by omega) (by omega)
  refine iter_some _ (fun r a h => iter_some _ (fun c a h => hp _ _ _ h) _ a (.inl h)) _ _ (.inr ⟨hpos ht hd.2, ?_⟩)
  refine iter_some _ (fun c a h => hp _ _ _ h) _ _ (.inr ⟨hpos wd hd.1, ?_⟩)
  show (mcu gray (qt q) f0 f1 f2 wd ht (st * 0) (st * 0) _).s.Some
  rw [Nat.mul_zero]
  exact h0
theorem fill_pos : ∀ (f : Nat) (s : St), s.Some → s.n < 8 → 9 - s.n ≤ f + (if s.n = 0 then 9 else 0) → 0 < (fillB f s).out.length := by
  intro f
  induction f with
  | zero =>
    intro s h h8 hf
    by_cases h0 : s.n = 0
    · rw [fillB_zero _ _ h0]
      rcases h with h | h
      · exact h
      · omega
    · rw [if_neg h0] at hf; omega
  | succ f ih =>
    intro s h h8 hf
    by_cases h0 : s.n = 0
    · rw [fillB_zero _ _ h0]
      rcases h with h | h
      · exact h
      · omega
    · rw [if_neg h0] at hf
      rw [fillB_step f s (by omega)]
      have hn := pushBit_n s 1
      by_cases h7 : s.n + 1 = 8
      · rw [if_pos h7] at hn
        refine ih _ (St.Some.bit _ _) (by omega) ?_
        rw [hn, if_pos rfl]
        omega
      · rw [if_neg h7] at hn
        refine ih _ (St.Some.bit _ _) (by omega) ?_
        rw [hn, if_neg (by omega)]
        omega
theorem file_some (gray : Bool) (q : Int) (f0 f1 f2 : Nat → Nat → Int) (wd ht : Nat) (hd : 1 ≤ wd ∧ 1 ≤ ht) (h8 : ∀ x y, 0 ≤ f0 x y ∧ f0 x y ≤ 255) : 0 < (fillB 8 (bitsOf gray q f0 f1 f2 wd ht)).out.length := by
  have hok := (bits_okk gray q f0 f1 f2 wd ht).n
  refine fill_pos 8 _ (bits_some gray q f0 f1 f2 wd ht hd h8) hok ?_
  split <;> omega
end Go.Proofs.YtlibflbpajeeeaaDoor
