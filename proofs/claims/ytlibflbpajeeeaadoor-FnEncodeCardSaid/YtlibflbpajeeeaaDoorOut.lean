/- The reference's bits: the contracts of out.put and out.fill: bits behind the bits, one by one. -/
import Derived.Test.YtlibflbpajeeeaaDoorJZz
import Derived.Test.YtlibflbpajeeeaaDoorWord
import Derived.RegionTactic
import Derived.BigRegion
import Derived.Deep.RegionLaw
namespace Go.Proofs.YtlibflbpajeeeaaDoor
open Go.RowKit

/-- The reference's bits at block O. -/
structure OutAt (w : World) (O : Nat) (v : Value) (s : St) : Prop where
  b : w.cell? ⟨O, 0, none⟩ = some v
  bi : w.cell? ⟨O, 1, none⟩ = some (.int .u32 s.acc)
  nb : w.cell? ⟨O, 2, none⟩ = some (.int .i64 s.n)
  fr : ∀ j, j < 3 → w.frozen? ⟨O, j, none⟩ = false
  row : RowAt w 5 v (s.out.map u8v)
  ok : s.Ok
  ne : v.ownBlock ≠ some O
theorem OutAt.lt {w : World} {O : Nat} {v : Value} {s : St} (h : OutAt w O v s) : O < w.heap.size := World.block_lt_of_cell? w _ h.b


theorem and_one (x : Int) (h : 0 ≤ x ∧ x < 4294967296) : bits BinOp.and IntKind.u32 x 1 = x % 2 := by
  rw [u32_and _ _ h.1 h.2 (by decide) (by decide)]
  obtain ⟨a, rfl⟩ := Int.eq_ofNat_of_zero_le h.1
  rw [show ((1 : Int)).toNat = 2 ^ 1 - 1 by decide, Int.toNat_natCast, Nat.and_two_pow_sub_one_eq_mod]
  exact Int.natCast_emod a 2
theorem or_bit (a b : Int) (ha : 0 ≤ a ∧ a < 128) (hb : b = 0 ∨ b = 1) : bits BinOp.or IntKind.u32 (a * 2 % 4294967296) b = 2 * a + b := by
  rw [Int.emod_eq_of_lt (by omega) (by omega), u32_or _ _ (by omega) (by omega) (by omega) (by omega)]
  obtain ⟨x, rfl⟩ := Int.eq_ofNat_of_zero_le ha.1
  have e1 : ((x : Int) * 2).toNat = x <<< 1 := by rw [Nat.shiftLeft_eq]; omega
  have hlt : b.toNat < 2 ^ 1 := by omega
  rw [e1, ← Nat.shiftLeft_add_eq_or_of_lt hlt, Nat.shiftLeft_eq]
  omega
theorem acc_lt {s : St} (h : s.Ok) : s.acc < 128 := by
  have h1 := h.hi
  have h2 := pow_le (show s.n ≤ 7 by have := h.n; omega)
  have e : (2 : Int) ^ 7 = 128 := by decide
  omega
theorem put_bits {s : St} (h : s.Ok) (x : Int) (hx : 0 ≤ x ∧ x < 4294967296) (j : Nat) :
    bits BinOp.or IntKind.u32 (s.acc * 2 % 4294967296) (bits BinOp.and IntKind.u32 (x / 2 ^ j) 1) = 2 * s.acc + x / 2 ^ j % 2 := by
  have hp := pow_pos2 j
  rw [and_one _ ⟨Int.ediv_nonneg hx.1 (by omega), by have := Int.ediv_le_self (2 ^ j) hx.1; omega⟩]
  exact or_bit _ _ ⟨h.lo, acc_lt h⟩ (mod2 _)

/-- Behind a bit that does not fill the byte. -/
theorem OutAt.bit {w : World} {O : Nat} {v : Value} {s : St} (h : OutAt w O v s) (b : Int) (hb : b = 0 ∨ b = 1) (h8 : s.n + 1 ≠ 8) (q : Nat) :
    OutAt (((w.setCell ⟨O, 1, none⟩ (.int .u32 (2 * s.acc + b))).setCell ⟨O, 2, none⟩ (.int .i64 ((s.n : Int) + 1))).drewN q) O v (pushBit s b) ∧
      Keeps [O] v v w (((w.setCell ⟨O, 1, none⟩ (.int .u32 (2 * s.acc + b))).setCell ⟨O, 2, none⟩ (.int .i64 ((s.n : Int) + 1))).drewN q) := by
  have hp : pushBit s b = ⟨s.out, 2 * s.acc + b, s.n + 1⟩ := by unfold pushBit; rw [if_neg h8]
  have hok := pushBit_ok h.ok b hb
  rw [hp] at hok ⊢
  have c2 : (w.setCell ⟨O, 1, none⟩ (.int .u32 (2 * s.acc + b))).cell? ⟨O, 2, none⟩ = some (.int .i64 s.n) := by
    rw [World.cell?_setCell_other _ _ _ _ (by intro e; injection e; omega)]; exact h.nb
  refine ⟨⟨?_, ?_, ?_, fun j hj => ?_, ((h.row.setCell _ _ h.ne).setCell _ _ h.ne).drew q, hok, h.ne⟩, ((Keeps.setCell _ _ _ _ (by simp)).trans (Keeps.setCell _ _ _ _ (by simp))).trans (Keeps.drew _ _ _ q)⟩
  · rw [show ∀ (u : World) a, (u.drewN q).cell? a = u.cell? a from fun _ _ => rfl, World.cell?_setCell_other _ _ _ _ (by intro e; injection e; omega), World.cell?_setCell_other _ _ _ _ (by intro e; injection e; omega)]; exact h.b
  · rw [show ∀ (u : World) a, (u.drewN q).cell? a = u.cell? a from fun _ _ => rfl, World.cell?_setCell_other _ _ _ _ (by intro e; injection e; omega)]
    exact World.cell?_setCell_same _ _ _ h.bi
  · rw [show ∀ (u : World) a, (u.drewN q).cell? a = u.cell? a from fun _ _ => rfl]
    exact World.cell?_setCell_same _ _ _ c2
  · rw [show ∀ (u : World) a, (u.drewN q).frozen? a = u.frozen? a from fun _ _ => rfl, World.frozen?_setCell, World.frozen?_setCell]; exact h.fr j hj

/-- The reference's bits in the midst of a step: the bytes so far, the number. -/
structure Half (w : World) (O : Nat) (v : Value) (y : Int) (xs : List Int) : Prop where
  b : w.cell? ⟨O, 0, none⟩ = some v
  bi : w.cell? ⟨O, 1, none⟩ = some (.int .u32 y)
  nb : ∃ z, w.cell? ⟨O, 2, none⟩ = some (.int .i64 z)
  fr : ∀ j, j < 3 → w.frozen? ⟨O, j, none⟩ = false
  row : RowAt w 5 v (xs.map u8v)
  ne : v.ownBlock ≠ some O
theorem Half.lt {w : World} {O : Nat} {v : Value} {y : Int} {xs : List Int} (h : Half w O v y xs) : O < w.heap.size := World.block_lt_of_cell? w _ h.b
theorem RowAt.drew1 {w : World} {e : TypeId} {v : Value} {xs : List Value} (h : RowAt w e v xs) : RowAt w.drew e v xs := h.drew 1
theorem Half.alloc {w : World} {O : Nat} {v : Value} {y : Int} {xs : List Int} (h : Half w O v y xs) (o : Obj) : Half (w.alloc o) O v y xs := by
  obtain ⟨z, hz⟩ := h.nb
  exact ⟨(World.cell?_alloc_past _ _ _ h.lt).trans h.b, (World.cell?_alloc_past _ _ _ h.lt).trans h.bi, ⟨z, (World.cell?_alloc_past _ _ _ h.lt).trans hz⟩, fun j hj => (World.frozen?_alloc_past _ _ _ h.lt).trans (h.fr j hj), h.row.alloc o, h.ne⟩
theorem Half.drew {w : World} {O : Nat} {v : Value} {y : Int} {xs : List Int} (h : Half w O v y xs) (q : Nat) : Half (w.drewN q) O v y xs := ⟨h.b, h.bi, h.nb, h.fr, h.row.drew q, h.ne⟩
theorem OutAt.half {w : World} {O : Nat} {v : Value} {s : St} (h : OutAt w O v s) (y n : Int) (q : Nat) : Half (((w.setCell ⟨O, 1, none⟩ (.int .u32 y)).setCell ⟨O, 2, none⟩ (.int .i64 n)).drewN q) O v y s.out ∧
    Keeps [O] v v w (((w.setCell ⟨O, 1, none⟩ (.int .u32 y)).setCell ⟨O, 2, none⟩ (.int .i64 n)).drewN q) := by
  have c2 : (w.setCell ⟨O, 1, none⟩ (.int .u32 y)).cell? ⟨O, 2, none⟩ = some (.int .i64 s.n) := by
    rw [World.cell?_setCell_other _ _ _ _ (by intro e; injection e; omega)]; exact h.nb
  refine ⟨⟨?_, ?_, ⟨n, ?_⟩, fun j hj => ?_, ((h.row.setCell _ _ h.ne).setCell _ _ h.ne).drew q, h.ne⟩, ((Keeps.setCell _ _ _ _ (by simp)).trans (Keeps.setCell _ _ _ _ (by simp))).trans (Keeps.drew _ _ _ q)⟩
  · rw [show ∀ (u : World) a, (u.drewN q).cell? a = u.cell? a from fun _ _ => rfl, World.cell?_setCell_other _ _ _ _ (by intro e; injection e; omega), World.cell?_setCell_other _ _ _ _ (by intro e; injection e; omega)]; exact h.b
  · rw [show ∀ (u : World) a, (u.drewN q).cell? a = u.cell? a from fun _ _ => rfl, World.cell?_setCell_other _ _ _ _ (by intro e; injection e; omega)]
    exact World.cell?_setCell_same _ _ _ h.bi
  · rw [show ∀ (u : World) a, (u.drewN q).cell? a = u.cell? a from fun _ _ => rfl]
    exact World.cell?_setCell_same _ _ _ c2
  · rw [show ∀ (u : World) a, (u.drewN q).frozen? a = u.frozen? a from fun _ _ => rfl, World.frozen?_setCell, World.frozen?_setCell]; exact h.fr j hj
/-- Behind an append, and behind the store of its value. -/
theorem Half.app {w w1 : World} {O : Nat} {v : Value} {y : Int} {xs ps : List Int} {g n cap : Nat} (h : Half w O v y xs)
    (hrow : RowAt w1 5 (.slice (some ⟨g, 0, none⟩) n cap) (xs.map u8v ++ ps.map u8v)) (hg : w.grownBy w1 v.ownBlock) (ho : v.ownBlock = some g ∨ w.heap.size ≤ g) :
    w1.cell? ⟨O, 0, none⟩ = some v ∧ w1.frozen? ⟨O, 0, none⟩ = false ∧
    Half (w1.setCell ⟨O, 0, none⟩ (.slice (some ⟨g, 0, none⟩) n cap)) O (.slice (some ⟨g, 0, none⟩) n cap) y (xs ++ ps) ∧ Keeps [O] v (.slice (some ⟨g, 0, none⟩) n cap) w (w1.setCell ⟨O, 0, none⟩ (.slice (some ⟨g, 0, none⟩) n cap)) := by
  have hO := h.lt
  have hOb : w1.heap[O]? = w.heap[O]? := hg.block O hO (fun e => h.ne e.symm)
  have hne : g ≠ O := by
    intro e
    rcases ho with h1 | h1
    · exact h.ne (e ▸ h1)
    · omega
  have own : ∀ k, (Value.slice (some ⟨g, 0, none⟩) n cap).ownBlock = some k → v.ownBlock = some k ∨ w.heap.size ≤ k := by
    intro k hk'
    simp [Value.ownBlock] at hk'
    subst hk'
    exact ho
  have hc : ∀ j, w1.cell? ⟨O, j, none⟩ = w.cell? ⟨O, j, none⟩ := fun j => World.cell?_of_block (a := ⟨O, j, none⟩) hOb
  have hf : ∀ j, w1.frozen? ⟨O, j, none⟩ = w.frozen? ⟨O, j, none⟩ := fun j => World.frozen?_of_block (a := ⟨O, j, none⟩) hOb
  have h0 : w1.cell? ⟨O, 0, none⟩ = some v := (hc 0).trans h.b
  obtain ⟨z, hz⟩ := h.nb
  refine ⟨h0, (hf 0).trans (h.fr 0 (by decide)), ⟨?_, ?_, ⟨z, ?_⟩, fun j hj => ?_, ?_, ?_⟩, ?_⟩
  · exact World.cell?_setCell_same w1 _ _ h0
  · rw [World.cell?_setCell_other _ _ _ _ (by intro e; injection e; omega), hc]; exact h.bi
  · rw [World.cell?_setCell_other _ _ _ _ (by intro e; injection e; omega), hc]; exact hz
  · rw [World.frozen?_setCell, hf]; exact h.fr j hj
  · rw [List.map_append]
    exact hrow.setCell _ _ (by simp [Value.ownBlock, hne])
  · simp [Value.ownBlock, hne]
  · exact (Keeps.grown hg own).trans (Keeps.setCell _ _ _ _ (by simp))
/-- At the end of the step the number is nought. -/
theorem Half.end0 {w : World} {O : Nat} {v : Value} {y : Int} {xs : List Int} (h : Half w O v y xs) :
    OutAt ((w.setCell ⟨O, 1, none⟩ (.int .u32 0)).setCell ⟨O, 2, none⟩ (.int .i64 0)) O v ⟨xs, 0, 0⟩ ∧ Keeps [O] v v w ((w.setCell ⟨O, 1, none⟩ (.int .u32 0)).setCell ⟨O, 2, none⟩ (.int .i64 0)) := by
  obtain ⟨z, hz⟩ := h.nb
  have c2 : (w.setCell ⟨O, 1, none⟩ (.int .u32 0)).cell? ⟨O, 2, none⟩ = some (.int .i64 z) := by
    rw [World.cell?_setCell_other _ _ _ _ (by intro e; injection e; omega)]; exact hz
  refine ⟨⟨?_, ?_, ?_, fun j hj => ?_, (h.row.setCell _ _ h.ne).setCell _ _ h.ne, ⟨Nat.zero_lt_succ 7, Int.le_refl 0, by show (0 : Int) < 2 ^ 0; decide⟩, h.ne⟩, (Keeps.setCell _ _ _ _ (by simp)).trans (Keeps.setCell _ _ _ _ (by simp))⟩
  · rw [World.cell?_setCell_other _ _ _ _ (by intro e; injection e; omega), World.cell?_setCell_other _ _ _ _ (by intro e; injection e; omega)]; exact h.b
  · rw [World.cell?_setCell_other _ _ _ _ (by intro e; injection e; omega)]
    exact World.cell?_setCell_same _ _ _ h.bi
  · exact World.cell?_setCell_same _ _ _ c2
  · rw [World.frozen?_setCell, World.frozen?_setCell]; exact h.fr j hj

theorem news_one (w : World) (y : Value) (t : TypeId) : ∀ j u, [y][j]? = some u → (w.alloc (.cells #[y] t)).cell? ((⟨w.heap.size, 0, none⟩ : Addr).add j) = some u := by
  intro j u hj
  match j, hj with
  | 0, hj =>
    simp at hj; subst hj
    rw [Addr.add_lit, cell_of_row _ _ _ _ t (0, 0) (heap_alloc_new _ _)]
    rfl
theorem news_drew (w : World) (y : Value) (t : TypeId) : ∀ j u, [y][j]? = some u → (w.alloc (.cells #[y] t)).drew.cell? ((⟨w.heap.size, 0, none⟩ : Addr).add j) = some u := news_one w y t

def PutRel (w : World) (O : Nat) (v : Value) (x : Int) (F : St) (L : Nat) (kv : Value) (wr : World) : Prop :=
  ∃ (m : Nat) (s : St) (v' : Value), kv = .int .i64 ((m : Int) - 1) ∧ m ≤ 32 ∧ pushBits s x m = F ∧ s.out.length + 2 * m ≤ L ∧ OutAt wr O v' s ∧ Keeps [O] v v' w wr

def Putted (O : Nat) (v : Value) (w : World) (F : St) (e : Ending) (w' : World) : Prop := e = .returned (.tuple #[]) ∧ ∃ v', OutAt w' O v' F ∧ Keeps [O] v v' w w'

set_option maxRecDepth 100000 in
set_option maxHeartbeats 2000000 in
theorem put_any (w : World) (O : Nat) (v : Value) (s : St) (x : Int) (k : Nat) (h : OutAt w O v s) (hl : s.out.length ≤ 90000000) (hk : k ≤ 32) (hx : 0 ≤ x ∧ x < 4294967296) :
    Calls Tryd.prog 24 #[.pointer (some ⟨O, 0, none⟩), .int .u32 x, .int .i64 k] w (Putted O v w (pushBits s x k)) := by
  have hst : PutRel w O v x (pushBits s x k) (s.out.length + 2 * k) (.int .i64 ((k : Int) - 1)) w := ⟨k, s, v, rfl, hk, rfl, by omega, h, Keeps.refl _ _ _⟩
  have HST := Lib.hid hst
  obtain ⟨i0, hi, hz0, hz1, hz2⟩ := info_parts Tryd.infoU8
  have HI := Lib.hid hi
  have HZ0 := Lib.hid hz0
  have HZ1 := Lib.hid hz1
  have HZ2 := Lib.hid hz2
  clear h hst hi hz0 hz1 hz2
  go_enter Tryd.func24, Tryd.ntmps24
  go_wp2_with fail
  go_loopw [6] (fun kv wr => PutRel w O v x (pushBits s x k) (s.out.length + 2 * k) kv wr) (fun kv _ => (intOf kv + 1).toNat)
  case atStart => exact HST.out
  case round =>
    obtain ⟨m, t, v', rfl, hm32, hF, hL, hat, hkp⟩ := hrel
    clear HST
    by_cases hm : m = 0
    · subst hm
      have HF := Lib.hid hF
      have HAT := Lib.hid hat
      have HK := Lib.hid hkp
      clear hF hat hkp
      go_wp2_with fail
      go_end0
      exact ⟨rfl, v', by rw [← HF.out]; exact HAT.out, HK.out⟩
    · obtain ⟨j, rfl⟩ : ∃ j, m = j + 1 := ⟨m - 1, by omega⟩
      have hbi := hat.bi
      have hnb := hat.nb
      have hf1 := hat.fr 1 (by decide)
      have hf2 := hat.fr 2 (by decide)
      have hb0 := hat.b
      have hf0 := hat.fr 0 (by decide)
      have h0 := hat.ok.lo
      have h2 := hat.ok.n
      have hpb := put_bits hat.ok x hx j
      have hy0 : 0 ≤ 2 * t.acc + x / 2 ^ j % 2 ∧ 2 * t.acc + x / 2 ^ j % 2 < 256 := by have := acc_lt hat.ok; have := mod2 (x / 2 ^ j); omega
      have hms : mod2 (x / 2 ^ j) = mod2 (x / 2 ^ j) := rfl
      obtain ⟨y, hy⟩ : ∃ y, y = 2 * t.acc + x / 2 ^ j % 2 := ⟨_, rfl⟩
      rw [← hy] at hpb hy0
      have HY := Lib.hid hy
      have HF := Lib.hid hF
      have HAT := Lib.hid hat
      have HK := Lib.hid hkp
      clear hF hat hkp hm hms hy
      by_cases h8 : t.n + 1 = 8
      · have h8b : ((t.n : Int) + 1 == 8) = true := by simp; omega
        have H8 := Lib.hid h8
        clear h8
        have D := HAT.out.half y ((t.n : Int) + 1) 1
        have HD := Lib.hid D
        clear D
        go_wp2_with fail
        go_region
        go_wp2_with fail
        have hw2 : ∃ W2 : World, W2 = ((wr.setCell ⟨O, 1, none⟩ (.int .u32 y)).setCell ⟨O, 2, none⟩ (.int .i64 ((t.n : Int) + 1))).drew := ⟨_, rfl⟩
        obtain ⟨W2, hw2⟩ := hw2
        rw [← hw2]
        have HD2 : Half W2 O v' y t.out ∧ Keeps [O] v' v' wr W2 := by rw [hw2]; exact HD.out
        have hd0 := HD2.1.b
        have hd1 := HD2.1.bi
        have hdf := HD2.1.fr 0 (by decide)
        have hOl := HD2.1.lt
        have HD3 := Lib.hid HD2
        have hwr : IntKind.u8.wrap y = y := by show y % 256 = y; omega
        clear hw2 HD2 HD hbi hnb hf1 hf2 hb0 hf0 h8b
        go_region_law? (refine step_append_row rfl (.tmp 42) (.tmp 48) 32 rfl 5 i0 (.int .u8 0) 1 Tryd.underlying32 HI.out HZ0.out HZ1.out HZ2.out rfl v' (t.out.map u8v) (by simp [Act.eval]) ((HD3.out.1.row.alloc _).drew1) ⟨W2.heap.size, 0, none⟩ 1 1 [.int .u8 y] (by simp [Act.eval]) rfl (by decide) (news_drew _ _ _) (by intro u hu; simp at hu; subst hu; rfl) (by decide) (by simp; omega) ?_; intro g cap w3 hrow hg ho hlt; obtain ⟨ha0, haf, ha⟩ := ((HD3.out.1.alloc _).drew 1).app (ps := [y]) hrow hg ho; have HA := Lib.hid ha; clear ha hrow hg ho hlt)
        all_goals
          have hla : t.out.length ≤ 90000100 := by omega
          have H4 := Lib.hid HA.out
          simp only [List.length_map] at HA
          obtain ⟨vn, hvn⟩ : ∃ vn, vn = Value.slice (some ⟨g, 0, none⟩) (t.out.length + 1) cap := ⟨_, rfl⟩
          rw [← hvn] at HA
          rw [← hvn]
          obtain ⟨W4, hw4⟩ : ∃ W4, W4 = w3.setCell ⟨O, 0, none⟩ vn := ⟨_, rfl⟩
          rw [← hw4] at HA
          rw [← hw4]
          clear hw4 hvn H4 ha0 haf hd0 hd1 hdf
          obtain ⟨xs4, hx4⟩ : ∃ xs4, xs4 = t.out ++ [y] := ⟨_, rfl⟩
          rw [← hx4] at HA
          have hl4 : xs4.length = t.out.length + 1 := by rw [hx4]; simp
          have hln : xs4.length ≤ 90000101 := by omega
          have HX4 := Lib.hid hx4
          clear hx4 hl4
          have ha0 := HA.out.1.b
          have ha1 := HA.out.1.bi
          have haf0 := HA.out.1.fr 0 (by decide)
          have haf1 := HA.out.1.fr 1 (by decide)
          have haf2 := HA.out.1.fr 2 (by decide)
          have hal := HA.out.1.lt
          obtain ⟨z2, ha2⟩ := HA.out.1.nb
          have hpush : pushBit t (x / 2 ^ j % 2) = ⟨t.out ++ stuffed y, 0, 0⟩ := by unfold pushBit; rw [if_pos H8.out, HY.out]
          have HP := Lib.hid hpush
          have KK := Lib.hid ((HK.out.trans HD3.out.2).trans ((Keeps.alloc [O] v' W2 (.cells #[.int .u8 y] 5)).trans ((Keeps.drew _ _ _ 1).trans HA.out.2)))
          clear hpush
          by_cases h255 : y = 255
          · subst h255
            go_wp2_with (at_builtin; refine wpList_append_row rfl _ _ 32 rfl 5 i0 (.int .u8 0) 1 Tryd.underlying32 HI.out HZ0.out HZ1.out HZ2.out rfl vn (xs4.map u8v) rfl (HA.out.1.row.alloc _) ⟨W4.heap.size, 0, none⟩ 1 1 [.int .u8 0] rfl rfl (by decide) (news_one _ _ _) ?_ (by decide) ?_ ?_)
            · intro u hu; simp at hu; subst hu; rfl
            · simp; omega
            intro g2 cap2 w5 hrow2 hg2 ho2 hlt2
            obtain ⟨hb0, hbf, hb⟩ := (HA.out.1.alloc (.cells #[.int .u8 0] 5)).app (ps := [0]) hrow2 hg2 (by simpa using ho2)
            have HB := Lib.hid hb
            clear hb hrow2 hg2 ho2 hlt2 ha0 ha1 ha2 haf0 haf1 haf2 hal
            have hb1 : (w5.setCell ⟨O, 0, none⟩ (.slice (some ⟨g2, 0, none⟩) (xs4.length + 1) cap2)).cell? ⟨O, 1, none⟩ = some (.int .u32 255) := HB.out.1.bi
            rw [World.cell?_setCell_other _ _ _ _ (by intro e; injection e; omega)] at hb1
            obtain ⟨z5, hb2⟩ := HB.out.1.nb
            rw [World.cell?_setCell_other _ _ _ _ (by intro e; injection e; omega)] at hb2
            have hg1 : w5.frozen? ⟨O, 1, none⟩ = false := by have := HB.out.1.fr 1 (by decide); rw [World.frozen?_setCell] at this; exact this
            have hg2 : w5.frozen? ⟨O, 2, none⟩ = false := by have := HB.out.1.fr 2 (by decide); rw [World.frozen?_setCell] at this; exact this
            go_wp2_with fail
            go_roundw
            case rel =>
              have D := HB.out.1.end0
              refine ⟨j, pushBit t (x / 2 ^ j % 2), _, by go_num, by omega, HF.out, ?_, ?_, (KK.out.trans ((Keeps.alloc [O] vn W4 (.cells #[.int .u8 0] 5)).trans HB.out.2)).trans D.2⟩
              · have := (pushBit_len t (x / 2 ^ j % 2)).2
                omega
              · rw [HP.out]
                have e : t.out ++ stuffed 255 = xs4 ++ [0] := by rw [HX4.out]; simp [stuffed]
                rw [e]
                exact D.1
            case measure => simp [intOf]
          · have hyb : (y == 255) = false := by simp; omega
            go_wp2_with fail
            go_roundw
            case rel =>
              have D := HA.out.1.end0
              refine ⟨j, pushBit t (x / 2 ^ j % 2), vn, by go_num, by omega, HF.out, ?_, ?_, KK.out.trans D.2⟩
              · have := (pushBit_len t (x / 2 ^ j % 2)).2
                omega
              · rw [HP.out]; unfold stuffed; rw [if_neg h255, ← HX4.out]; exact D.1
            case measure => simp [intOf]
      · have h8b : ((t.n : Int) + 1 == 8) = false := by simp; omega
        have H8 := Lib.hid h8
        clear h8
        go_wp2_with fail
        go_region
        go_wp2_with fail
        go_roundw
        case rel =>
          have D := HAT.out.bit (x / 2 ^ j % 2) (mod2 _) H8.out 1
          rw [← HY.out] at D
          refine ⟨j, pushBit t (x / 2 ^ j % 2), v', by go_num, by omega, HF.out, ?_, D.1, HK.out.trans D.2⟩
          have := (pushBit_len t (x / 2 ^ j % 2)).2
          omega
        case measure => simp [intOf]

/-- The last byte is filled with ones. -/
def fillB : Nat → St → St
  | 0, s => s
  | f + 1, s => if 0 < s.n then fillB f (pushBit s 1) else s
theorem fillB_zero (f : Nat) (s : St) (h : s.n = 0) : fillB f s = s := by
  cases f with
  | zero => rfl
  | succ f => simp only [fillB]; rw [if_neg (by omega)]
theorem fillB_step (f : Nat) (s : St) (h : 0 < s.n) : fillB (f + 1) s = fillB f (pushBit s 1) := by
  simp only [fillB]; rw [if_pos h]
theorem pushBits_one (s : St) : pushBits s 1 1 = pushBit s 1 := by
  simp only [pushBits]
  rfl

def FillRel (w : World) (O : Nat) (v : Value) (s : St) (wr : World) : Prop :=
  ∃ (f : Nat) (t : St) (v' : Value), fillB f t = fillB 8 s ∧ (t.n = 0 ∨ f + t.n = 8 + s.n) ∧ s.n ≤ 7 ∧ t.out.length ≤ 80000100 - 2 * f ∧ f ≤ 8 ∧ OutAt wr O v' t ∧ Keeps [O] v v' w wr
def fillN (c : Int) : Nat := if c = 0 then 0 else (9 - c).toNat
def fillM (O : Nat) (wr : World) : Nat := fillN (intOf ((wr.cell? ⟨O, 2, none⟩).getD undef))
theorem fillM_at {wr : World} {O : Nat} {v : Value} {t : St} (h : OutAt wr O v t) : fillM O wr = if t.n = 0 then 0 else 9 - t.n := by
  unfold fillM
  rw [h.nb]
  show fillN (t.n : Int) = _
  unfold fillN
  by_cases h0 : t.n = 0
  · rw [if_pos h0, if_pos (by omega)]
  · rw [if_neg h0, if_neg (by omega)]; omega
theorem pushBit_n (s : St) (b : Int) : (pushBit s b).n = if s.n + 1 = 8 then 0 else s.n + 1 := by unfold pushBit; split <;> rfl

set_option maxRecDepth 100000 in
set_option maxHeartbeats 1000000 in
theorem fill_any (w : World) (O : Nat) (v : Value) (s : St) (h : OutAt w O v s) (hl : s.out.length ≤ 80000000) :
    Calls Tryd.prog 30 #[.pointer (some ⟨O, 0, none⟩)] w (Putted O v w (fillB 8 s)) := by
  have hst : FillRel w O v s w := ⟨8, s, v, rfl, .inr rfl, by have := h.ok.n; omega, by omega, by omega, h, Keeps.refl _ _ _⟩
  have HST := Lib.hid hst
  clear h hst
  go_enter Tryd.func30, Tryd.ntmps30
  go_wp2_with fail
  go_loopw [2] (fun _ wr => FillRel w O v s wr) (fun _ wr => fillM O wr)
  case atStart => exact HST.out
  case round =>
    obtain ⟨f, t, v', hF, hft, hs7, hL, hf8, hat, hkp⟩ := hrel
    clear HST
    have hnb := hat.nb
    have hn := hat.ok.n
    have hm := fillM_at hat
    have HM := Lib.hid hm
    have HF := Lib.hid hF
    have HAT := Lib.hid hat
    have HK := Lib.hid hkp
    have HFT := Lib.hid hft
    clear hF hat hkp hm hft
    by_cases h0 : t.n = 0
    · have h0b : decide (0 < t.n) = false := by simp; omega
      have H0 := Lib.hid h0
      clear h0
      go_wp2_with fail
      go_end0
      exact ⟨rfl, v', by rw [← HF.out, fillB_zero _ _ H0.out]; exact HAT.out, HK.out⟩
    · have h0b : decide (0 < t.n) = true := by simp; omega
      obtain ⟨f, rfl⟩ : ∃ g, f = g + 1 := ⟨f - 1, by rcases HFT.out with h | h <;> omega⟩
      go_wp2_with fail
      refine (put_any wr O v' t 1 1 HAT.out (by omega) (by omega) (by omega)).mono ?_
      rintro e w1 ⟨rfl, v1, h1, k1⟩
      have H1 := Lib.hid h1
      have K1 := Lib.hid k1
      clear h1 k1
      go_wp2_with fail
      have hpn := pushBit_n t 1
      have hpl := (pushBit_len t 1).2
      have h11 := H1.out
      rw [pushBits_one] at h11
      have hmm := fillM_at h11
      go_roundw
      case rel =>
        refine ⟨f, pushBit t 1, v1, by rw [← HF.out, fillB_step _ _ (by omega)], ?_, hs7, ?_, by omega, h11, HK.out.trans K1.out⟩
        · rcases HFT.out with h | h
          · omega
          · rw [hpn]; split <;> omega
        · omega
      case measure =>
        rw [hmm, HM.out, hpn, if_neg h0]
        split
        · simp; omega
        · rw [if_neg (by omega)]; omega

end Go.Proofs.YtlibflbpajeeeaaDoor
