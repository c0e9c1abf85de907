/- Slices of the call's own that grow: one law for append (it says whether the row's block is the old one or a new one), at a plain region and at a step of a region that draws; and the frame of whatever writes to some named blocks and to one such row. The contract of the law's qualityOf: the quality as it is taken. Conditions: the quality fits an int16. The contracts of the reference's size and coded: how many bits a number has, and its bits. (Joined by wip/gen/merge.py.) -/
import Derived.Test.YtlibflbpajeeeaaDoorRows
import Derived.WalkKit
import Derived.OwnWalk
import Derived.ArgAppend
import Derived.Deep.RegionLaw
import Derived.Lib.Hide
import Derived.Deep.Quiet
import Derived.Test.YtlibflbpajeeeaaDoorJDiv
namespace Go.Proofs.YtlibflbpajeeeaaDoor
open Go.RowKit

/-- v is a slice of the call's own with just these elements, a cell each. -/
def RowAt (w : World) (e : TypeId) (v : Value) (xs : List Value) : Prop := w.ownsRow 0 e 1 v xs.length xs

theorem run_append_row {P : Program} (w : World) (t ty e : TypeId) (i : TypeInfo) (z : Value) (bytes : Nat) (ht : P.underlying t = some (.slice e)) (hi : P.info? e = some i) (hz : i.zero = some z)
    (hsize : i.size = 1) (hby : i.bytes = bytes) (hzs : z.cells.size = 1)
    (v : Value) (xs : List Value) (hown : RowAt w e v xs)
    (ad : Addr) (m c : Nat) (news : List Value) (hl : news.length = m) (hm : 0 < m) (hnews : ∀ j u, news[j]? = some u → w.cell? (ad.add j) = some u) (h1 : ∀ u ∈ news, u.oneCell' = true)
    (hb8 : bytes ≤ 8) (hlen : xs.length + m ≤ 1000000000) :
    ∃ g cap w', (Builtin.append_ #[t, t] ty #[v, .slice (some ad) m c]).run P w = .ok (.slice (some ⟨g, 0, none⟩) (xs.length + m) cap) w' ∧ RowAt w' e (.slice (some ⟨g, 0, none⟩) (xs.length + m) cap) (xs ++ news) ∧
      w.grownBy w' v.ownBlock ∧ (v.ownBlock = some g ∨ w.heap.size ≤ g) ∧ g < w'.heap.size := by
  have h63 : xs.length + m ≤ maxLen := by unfold maxLen; omega
  have hbytes : (xs.length + m) * bytes ≤ 140737488355328 := Nat.le_trans (Nat.mul_le_mul hlen hb8) (by decide)
  have hl' : news.length = m * 1 := by omega
  have e2 : (xs ++ news).length = xs.length + m := by rw [List.length_append, hl]
  have shape : ∀ (base : Nat) (v' : Value) (w' : World), w'.ownsRow base e 1 v' (xs.length + m) (xs ++ news) →
      ∃ g cap, v' = .slice (some ⟨g, 0, none⟩) (xs.length + m) cap ∧ base ≤ g ∧ RowAt w' e v' (xs ++ news) ∧ g < w'.heap.size := by
    intro base v' w' h
    rcases h.2 with ⟨_, h0⟩ | ⟨g, cap, cur, hv, hb, r⟩
    · omega
    · refine ⟨g, cap, hv, hb, ?_, ?_⟩
      · unfold RowAt
        rw [e2]
        exact ⟨h.1, .inr ⟨g, cap, cur, hv, Nat.zero_le _, r⟩⟩
      · rcases Nat.lt_or_ge g w'.heap.size with hlt | hge
        · exact hlt
        · have hr := r.1
          rw [Array.getElem?_eq_none hge] at hr
          cases hr
  have none_le : ∀ {w' : World} (r : Option Nat), w.grownBy w' none → w.grownBy w' r := fun r h => ⟨h.os, h.tape, h.output, h.size, fun k hk _ => h.block k hk (by simp)⟩
  rcases hown.2 with ⟨rfl, h0⟩ | ⟨g, cap, cur, rfl, hbg, hg, hnc, hcm, hcs, htake⟩
  · have hx : xs = [] := List.eq_nil_of_length_eq_zero h0
    subst hx
    obtain ⟨v', w', hr, h2, h3, _⟩ := run_append_own (P := P) w w.heap.size t ty e i z 1 bytes ht hi hz hsize hby hzs (by decide) (.slice none 0 0) 0 [] (World.ownsRow_nil w _ e 1) ad m c news hl' hnews h1 (by simpa using h63) (by simpa using hbytes) (Nat.le_refl _)
    obtain ⟨g, cap, rfl, hb, hrow, hlt⟩ := shape w.heap.size v' w' (by simpa using h2)
    exact ⟨g, cap, w', hr, hrow, h3, .inr hb, hlt⟩
  · by_cases hroom : xs.length + m ≤ cap
    · obtain ⟨w', hr, h2, h3⟩ := run_append_fits (P := P) w 0 t ty e i 1 ht hi hsize g xs.length cap xs hown ad m c news hl' hnews h1 hroom
      obtain ⟨g', cap', hv, _, hrow, hlt⟩ := shape 0 _ w' h2
      simp only [Value.slice.injEq, Option.some.injEq, Addr.mk.injEq, and_true, true_and] at hv
      obtain ⟨rfl, rfl⟩ := hv
      exact ⟨g, cap, w', hr, hrow, h3, .inl rfl, hlt⟩
    · have holds : ∀ j u, xs[j]? = some u → w.cell? ((⟨g, 0, none⟩ : Addr).add j) = some u := World.ownsRow.cells hown (g := g) rfl
      obtain ⟨v', w', hr, h2, h3⟩ := run_append_arg_grows (P := P) w t ty e i z 1 bytes ht hi hz hsize hby hzs (by decide) ⟨g, 0, none⟩ xs.length cap xs (by omega) holds ad m c news hl' hnews (by omega) h63 hbytes
      obtain ⟨g', cap', rfl, hb, hrow, hlt⟩ := shape w.heap.size v' w' h2
      exact ⟨g', cap', w', hr, hrow, none_le _ h3, .inr hb, hlt⟩

theorem wpList_append_row {P : Program} {w : World} {ops : Array Oper} {rest : List Oper} {o : Oper} {a : Act} {Q : Exit → Act → World → Prop} (hgd : o.guard = none) (s x : Operand) (t : TypeId)
    (ho : o.op = .call { callee := .builtin .append, args := #[s, x], argTypes := #[t, t] })
    (e : TypeId) (i : TypeInfo) (z : Value) (bytes : Nat) (ht : P.underlying t = some (.slice e)) (hi : P.info? e = some i) (hz : i.zero = some z)
    (hsize : i.size = 1) (hby : i.bytes = bytes) (hzs : z.cells.size = 1)
    (v : Value) (xs : List Value) (hs : a.eval s = v) (hown : RowAt w e v xs)
    (ad : Addr) (m c : Nat) (news : List Value) (hx : a.eval x = .slice (some ad) m c) (hl : news.length = m) (hm : 0 < m) (hnews : ∀ j u, news[j]? = some u → w.cell? (ad.add j) = some u) (h1 : ∀ u ∈ news, u.oneCell' = true)
    (hb8 : bytes ≤ 8) (hlen : xs.length + m ≤ 1000000000)
    (h : ∀ g cap w', RowAt w' e (.slice (some ⟨g, 0, none⟩) (xs.length + m) cap) (xs ++ news) → w.grownBy w' v.ownBlock → (v.ownBlock = some g ∨ w.heap.size ≤ g) → g < w'.heap.size →
      wpList P ops Q rest (a.put o.dst (.slice (some ⟨g, 0, none⟩) (xs.length + m) cap)) w') : wpList P ops Q (o :: rest) a w := by
  refine wpList_plain hgd fun K hK => ?_
  obtain ⟨g, cap, w', hr, h2, h3, h4, h5⟩ := run_append_row (P := P) w t o.type e i z bytes ht hi hz hsize hby hzs v xs hown ad m c news hl hm hnews h1 hb8 hlen
  unfold Oper.wp execOp
  simp only [ho, resolve, invoke, builtin, Sem.run_bind, Sem.run_pure, Result.andThen_ok, List.map_toArray, List.map_cons, List.map_nil, hs, hx, hr]
  exact hK _ _ (h g cap w' h2 h3 h4 h5)

theorem step_append_row {P : Program} {ops : Array Oper} {o : Oper} {a : Act} {w : World} {K : Act → World → Prop} {Q : Exit → Act → World → Prop} {E : Prop} (hgd : o.guard = none) (s x : Operand) (t : TypeId)
    (ho : o.op = .call { callee := .builtin .append, args := #[s, x], argTypes := #[t, t] })
    (e : TypeId) (i : TypeInfo) (z : Value) (bytes : Nat) (ht : P.underlying t = some (.slice e)) (hi : P.info? e = some i) (hz : i.zero = some z)
    (hsize : i.size = 1) (hby : i.bytes = bytes) (hzs : z.cells.size = 1)
    (v : Value) (xs : List Value) (hs : a.eval s = v) (hown : RowAt w e v xs)
    (ad : Addr) (m c : Nat) (news : List Value) (hx : a.eval x = .slice (some ad) m c) (hl : news.length = m) (hm : 0 < m) (hnews : ∀ j u, news[j]? = some u → w.cell? (ad.add j) = some u) (h1 : ∀ u ∈ news, u.oneCell' = true)
    (hb8 : bytes ≤ 8) (hlen : xs.length + m ≤ 1000000000)
    (h : ∀ g cap w', RowAt w' e (.slice (some ⟨g, 0, none⟩) (xs.length + m) cap) (xs ++ news) → w.grownBy w' v.ownBlock → (v.ownBlock = some g ∨ w.heap.size ≤ g) → g < w'.heap.size →
      K (a.put o.dst (.slice (some ⟨g, 0, none⟩) (xs.length + m) cap)) w') :
    if Region.wanted o (yielded ops a.tmps) = true then Oper.wp P o a w K Q else E := by
  have hw : Region.wanted o (yielded ops a.tmps) = true := by simp [Region.wanted, hgd]
  rw [if_pos hw]
  obtain ⟨g, cap, w', hr, h2, h3, h4, h5⟩ := run_append_row (P := P) w t o.type e i z bytes ht hi hz hsize hby hzs v xs hown ad m c news hl hm hnews h1 hb8 hlen
  unfold Oper.wp execOp
  simp only [ho, resolve, invoke, builtin, Sem.run_bind, Sem.run_pure, Result.andThen_ok, List.map_toArray, List.map_cons, List.map_nil, hs, hx, hr]
  exact h g cap w' h2 h3 h4 h5

/-- Of the blocks that stood there none has turned but those of the list and the row's own; the row's own is the old one or a new one. -/
structure Keeps (Bs : List Nat) (v v' : Value) (w w' : World) : Prop where
  os : w'.os = w.os
  tape : w'.tape = w.tape
  output : w'.output = w.output
  size : w.heap.size ≤ w'.heap.size
  block : ∀ k, k < w.heap.size → k ∉ Bs → v.ownBlock ≠ some k → w'.heap[k]? = w.heap[k]?
  own : ∀ h, v'.ownBlock = some h → v.ownBlock = some h ∨ w.heap.size ≤ h

theorem Keeps.refl (Bs : List Nat) (v : Value) (w : World) : Keeps Bs v v w w := ⟨rfl, rfl, rfl, Nat.le_refl _, fun _ _ _ _ => rfl, fun _ h => .inl h⟩
theorem Keeps.trans {Bs : List Nat} {u v x : Value} {a b c : World} (h : Keeps Bs u v a b) (k : Keeps Bs v x b c) : Keeps Bs u x a c := by
  have hs := h.size
  refine ⟨k.os.trans h.os, k.tape.trans h.tape, k.output.trans h.output, Nat.le_trans h.size k.size, fun i hi hb hv => ?_, fun i hi => ?_⟩
  · refine (k.block i (by omega) hb ?_).trans (h.block i hi hb hv)
    intro hc
    rcases h.own i hc with h1 | h1
    · exact hv h1
    · omega
  · rcases k.own i hi with h1 | h1
    · exact h.own i h1
    · exact .inr (by omega)
theorem Keeps.alloc (Bs : List Nat) (v : Value) (w : World) (o : Obj) : Keeps Bs v v w (w.alloc o) := ⟨rfl, rfl, rfl, by simp, fun k hk _ _ => _root_.Go.heap_alloc_old w o hk, fun _ h => .inl h⟩
theorem Keeps.drew (Bs : List Nat) (v : Value) (w : World) (q : Nat) : Keeps Bs v v w (w.drewN q) := ⟨rfl, rfl, rfl, Nat.le_refl _, fun _ _ _ _ => rfl, fun _ h => .inl h⟩
theorem Keeps.setCell {Bs : List Nat} (v : Value) (w : World) (a : Addr) (x : Value) (h : a.block ∈ Bs) : Keeps Bs v v w (w.setCell a x) :=
  ⟨rfl, rfl, rfl, by simp [World.setCell], fun k _ hb _ => Below.heap_setCell w a x k (fun e => hb (e ▸ h)), fun _ h => .inl h⟩
theorem Keeps.grown {Bs : List Nat} {v v' : Value} {w w' : World} (h : w.grownBy w' v.ownBlock) (ho : ∀ h, v'.ownBlock = some h → v.ownBlock = some h ∨ w.heap.size ≤ h) : Keeps Bs v v' w w' :=
  ⟨h.os, h.tape, h.output, h.size, fun k hk _ hv => h.block k hk (fun e => hv e.symm), ho⟩
/-- Another value than the row's: the row's block, once it is one of the list. -/
theorem Keeps.wider {Bs Cs : List Nat} {v v' : Value} {w w' : World} (h : Keeps Bs v v' w w') (hb : ∀ b ∈ Bs, b ∈ Cs) : Keeps Cs v v' w w' :=
  ⟨h.os, h.tape, h.output, h.size, fun k hk hc hv => h.block k hk (fun e => hc (hb k e)) hv, h.own⟩
theorem Keeps.cell {Bs : List Nat} {v v' : Value} {w w' : World} (h : Keeps Bs v v' w w') {x : Addr} (hx : x.block < w.heap.size) (hb : x.block ∉ Bs) (hv : v.ownBlock ≠ some x.block) : w'.cell? x = w.cell? x := World.cell?_of_block (h.block x.block hx hb hv)
theorem Keeps.frozen {Bs : List Nat} {v v' : Value} {w w' : World} (h : Keeps Bs v v' w w') {x : Addr} (hx : x.block < w.heap.size) (hb : x.block ∉ Bs) (hv : v.ownBlock ≠ some x.block) : w'.frozen? x = w.frozen? x := World.frozen?_of_block (h.block x.block hx hb hv)

theorem RowAt.nil (w : World) (e : TypeId) : RowAt w e (.slice none 0 0) [] := World.ownsRow_nil w 0 e 1
theorem RowAt.alloc {w : World} {e : TypeId} {v : Value} {xs : List Value} (h : RowAt w e v xs) (o : Obj) : RowAt (w.alloc o) e v xs := World.ownsRow.alloc h o
theorem RowAt.lt {w : World} {e : TypeId} {v : Value} {xs : List Value} (h : RowAt w e v xs) {g : Nat} (hg : v.ownBlock = some g) : g < w.heap.size := (World.ownsRow.lt h g hg).2
/-- The row in a world where its own block is as it was. -/
theorem RowAt.same {w w' : World} {e : TypeId} {v : Value} {xs : List Value} (h : RowAt w e v xs) (hb : ∀ g, v.ownBlock = some g → w'.heap[g]? = w.heap[g]?) : RowAt w' e v xs := by
  refine ⟨h.1, ?_⟩
  rcases h.2 with h1 | ⟨g, cap, cur, hv, hb', hg, r⟩
  · exact .inl h1
  · exact .inr ⟨g, cap, cur, hv, hb', (hb g (by rw [hv]; rfl)).trans hg, r⟩
theorem RowAt.setCell {w : World} {e : TypeId} {v : Value} {xs : List Value} (h : RowAt w e v xs) (a : Addr) (x : Value) (ha : v.ownBlock ≠ some a.block) : RowAt (w.setCell a x) e v xs :=
  h.same fun g hg => Below.heap_setCell w a x g (fun e => ha (by rw [← e]; exact hg))
theorem RowAt.drew {w : World} {e : TypeId} {v : Value} {xs : List Value} (h : RowAt w e v xs) (q : Nat) : RowAt (w.drewN q) e v xs := h.same fun _ _ => rfl
theorem RowAt.cell {w : World} {e : TypeId} {v : Value} {xs : List Value} (h : RowAt w e v xs) {g n cap : Nat} (hv : v = .slice (some ⟨g, 0, none⟩) n cap) (j : Nat) (hj : j < xs.length) : w.cell? ⟨g, j, none⟩ = some xs[j] := by
  have := World.ownsRow.cells h (g := g) (by rw [hv]; rfl) j xs[j] (List.getElem?_eq_getElem hj)
  rw [Addr.add_lit, Nat.zero_add] at this
  exact this
theorem RowAt.form {w : World} {e : TypeId} {v : Value} {xs : List Value} (h : RowAt w e v xs) : (v = .slice none 0 0 ∧ xs = []) ∨ ∃ g cap, v = .slice (some ⟨g, 0, none⟩) xs.length cap ∧ g < w.heap.size := by
  rcases h.2 with ⟨h1, h2⟩ | ⟨g, cap, cur, hv, hb', hg, r⟩
  · exact .inl ⟨h1, List.eq_nil_of_length_eq_zero h2⟩
  · exact .inr ⟨g, cap, hv, h.lt (by rw [hv]; rfl)⟩

def u8v (x : Int) : Value := .int .u8 x
/-- The element bytes' row of the table. -/
theorem Tryd.infoU8 : (Tryd.prog.info? 5).map (fun i => (i.zero, i.size, i.bytes)) = some (some (.int .u8 0), 1, 1) := by kernel_rfl
theorem Tryd.infoInt : (Tryd.prog.info? 3).map (fun i => (i.zero, i.size, i.bytes)) = some (some (.int .i64 0), 1, 8) := by kernel_rfl

end Go.Proofs.YtlibflbpajeeeaaDoor

namespace Go.Proofs.YtlibflbpajeeeaaDoor
open Go.RowKit

/-- The quality as it is taken. -/
def qOf (q : Int) (told : Bool) : Int := if told then min (max q 1) 100 else 75
theorem qOf_bd (q : Int) (told : Bool) : 1 ≤ qOf q told ∧ qOf q told ≤ 100 := by
  unfold qOf
  split <;> omega

theorem ret_i64 {a b : Int} (h : a = b) : Ending.returned (.int .i64 a) = .returned (.int .i64 b) := by rw [h]

set_option maxRecDepth 100000 in
theorem quality_any (w : World) (q : Int) (told : Bool) (hq : -32768 ≤ q ∧ q ≤ 32767) : Calls Tryd.prog 12 #[.int .i16 q, .bool told] w fun e w' => e = .returned (.int .i64 (qOf q told)) ∧ w = w' := by
  obtain ⟨hq1, hq2⟩ := hq
  cases told
  · go_enter Tryd.func12, Tryd.ntmps12
    go_wp2_with fail
    go_ret
    exact ⟨rfl, rfl⟩
  · go_enter Tryd.func12, Tryd.ntmps12
    go_wp2_with fail
    all_goals
      go_ret
    · exact ⟨ret_i64 (by unfold qOf; rw [if_pos rfl]; split at * <;> omega), rfl⟩
    · exact ⟨ret_i64 (by unfold qOf; rw [if_pos rfl]; split at * <;> omega), rfl⟩
    · exact ⟨ret_i64 (by unfold qOf; rw [if_pos rfl]; split at * <;> omega), rfl⟩
end Go.Proofs.YtlibflbpajeeeaaDoor

namespace Go.Proofs.YtlibflbpajeeeaaDoor
open Go.RowKit

/-- How many bits are left. -/
def SizeRel (x : Int) (nv kv : Value) : Prop := ∃ (n k f : Nat), nv = .int .i64 n ∧ kv = .int .i64 k ∧ k + szN f n = size x ∧ n < 2 ^ f ∧ n < 4096 ∧ k + f = 12

theorem sizeRel_next {x : Int} {n k f : Nat} (h : k + szN f n = size x) (hn : n < 2 ^ f) (h0 : 0 < n) (hk : k + f = 12) : ∃ g, k + 1 + szN g (n / 2) = size x ∧ n / 2 < 2 ^ g ∧ k + 1 + g = 12 := by
  cases f with
  | zero => simp at hn; omega
  | succ f =>
    refine ⟨f, ?_, by rw [Nat.pow_succ] at hn; omega, by omega⟩
    rw [← h]
    simp only [szN]
    rw [if_neg (by omega)]
    omega
theorem szN_zero (f : Nat) : szN f 0 = 0 := by cases f <;> rfl

set_option maxHeartbeats 1000000 in
theorem size_of (a : Nat) (ha : a < 4096) (v : Int) (hv : v = a ∨ v = -(a : Int)) (w : World) :
    Calls Tryd.prog 27 #[.int .i64 v] w fun e w' => e = .returned (.int .i64 (size v)) ∧ w = w' := by
  have hs : SizeRel v (.int .i64 a) (.int .i64 0) := ⟨a, 0, 12, rfl, rfl, by unfold size; rw [show v.natAbs = a by omega]; omega, by simpa using ha, ha, rfl⟩
  have HS := Lib.hid hs
  clear hs
  by_cases h : v < 0
  · obtain rfl : v = -(a : Int) := by omega
    have h0 : (0 : Int) < a := by omega
    go_enter Tryd.func27, Tryd.ntmps27
    go_wp2_with fail
    go_loop [0, 3] (fun nv kv => SizeRel (-(a : Int)) nv kv) (fun nv _ => (intOf nv).toNat)
    case atStart => exact HS.out
    case round =>
      obtain ⟨n, k, f, rfl, rfl, hk, hn, hn2, hkf⟩ := hrel
      clear HS
      have hk12 : k ≤ 12 := by omega
      by_cases hz : n = 0
      · subst hz
        rw [szN_zero] at hk
        have HK := Lib.hid hk
        clear hk
        go_wp2_with fail
        go_ret
        exact ⟨by rw [← HK.out]; rfl, rfl⟩
      · have hpos : 0 < n := by omega
        obtain ⟨g, g1, g2, g3⟩ := sizeRel_next hk hn hpos hkf
        have G1 := Lib.hid g1
        have G2 := Lib.hid g2
        have G3 := Lib.hid g3
        clear g1 g2 g3 hk hn hkf hz
        go_wp2_with fail
        go_round
        case rel => exact ⟨n / 2, k + 1, g, by go_num, by go_num, G1.out, G2.out, by omega, G3.out⟩
        case measure => simp [intOf]; omega
  · obtain rfl : v = (a : Int) := by omega
    clear h
    go_enter Tryd.func27, Tryd.ntmps27
    go_wp2_with fail
    go_loop [0, 3] (fun nv kv => SizeRel (a : Int) nv kv) (fun nv _ => (intOf nv).toNat)
    case atStart => exact HS.out
    case round =>
      obtain ⟨n, k, f, rfl, rfl, hk, hn, hn2, hkf⟩ := hrel
      clear HS
      have hk12 : k ≤ 12 := by omega
      by_cases hz : n = 0
      · subst hz
        rw [szN_zero] at hk
        have HK := Lib.hid hk
        clear hk
        go_wp2_with fail
        go_ret
        exact ⟨by rw [← HK.out]; rfl, rfl⟩
      · have hpos : 0 < n := by omega
        obtain ⟨g, g1, g2, g3⟩ := sizeRel_next hk hn hpos hkf
        have G1 := Lib.hid g1
        have G2 := Lib.hid g2
        have G3 := Lib.hid g3
        clear g1 g2 g3 hk hn hkf hz
        go_wp2_with fail
        go_round
        case rel => exact ⟨n / 2, k + 1, g, by go_num, by go_num, G1.out, G2.out, by omega, G3.out⟩
        case measure => simp [intOf]; omega

theorem size_any (v : Int) (hv : v.natAbs < 4096) (w : World) : Calls Tryd.prog 27 #[.int .i64 v] w fun e w' => e = .returned (.int .i64 (size v)) ∧ w = w' :=
  size_of v.natAbs hv v (by omega) w

theorem pow_small (k : Nat) (hk : k ≤ 12) : (2 : Int) ^ k ≤ 4096 ∧ (1 : Int) ≤ 2 ^ k := by
  have h := Nat.pow_le_pow_right (show 0 < 2 by decide) hk
  have h2 : ((2 ^ k : Nat) : Int) ≤ ((2 ^ 12 : Nat) : Int) := by exact_mod_cast h
  have e : ((2 ^ k : Nat) : Int) = (2 : Int) ^ k := by norm_cast
  rw [e] at h2
  exact ⟨by simpa using h2, pow_pos2 k⟩

set_option maxHeartbeats 1000000 in
theorem coded_any (v : Int) (hv : v.natAbs < 4096) (k : Nat) (hk : k = size v) (w : World) :
    Calls Tryd.prog 28 #[.int .i64 v, .int .i64 k] w fun e w' => e = .returned (.int .u32 (coded v)) ∧ w = w' := by
  have hk12 : k ≤ 12 := by rw [hk]; exact size_le v 12 (by simpa using hv)
  obtain ⟨hp1, hp2⟩ := pow_small k hk12
  have hc := coded_fits v hv
  rw [← hk] at hc
  obtain ⟨p, hpd⟩ : ∃ p : Int, p = 2 ^ k := ⟨_, rfl⟩
  have hcd : coded v = if v < 0 then v + (p - 1) else v := by unfold coded; rw [hpd, hk]
  have HK := Lib.hid hk
  have HC := Lib.hid hc
  by_cases h : v < 0
  · rw [if_pos h] at hcd
    have hr : 0 ≤ v + (2 ^ k - 1) ∧ v + (2 ^ k - 1) < 4096 := by rw [hcd, hpd] at hc; omega
    obtain ⟨hr0, hr1⟩ := hr
    have HCD := Lib.hid (hcd.trans (by rw [hpd]))
    clear hcd hpd hk hc
    go_enter Tryd.func28, Tryd.ntmps28
    go_wp2_with fail
    go_ret
    exact ⟨congrArg (fun z => Ending.returned (Value.int .u32 z)) HCD.out.symm, rfl⟩
  · rw [if_neg h] at hcd
    have HCD := Lib.hid hcd
    clear hcd hpd hk hc
    go_enter Tryd.func28, Tryd.ntmps28
    go_wp2_with fail
    go_ret
    exact ⟨congrArg (fun z => Ending.returned (Value.int .u32 z)) HCD.out.symm, rfl⟩

end Go.Proofs.YtlibflbpajeeeaaDoor
