/- The contracts of the laws' mixer: next gives some number of 32 bits and moves its place on by one; below(n) some number from 0 to n - 1. Conditions: the mixer's two cells lie there, its numbers are read, its place is far from the greatest int. -/
import Derived.Test.YtlibflbpajeeeaaDoorRows
import Derived.WalkKit
import Derived.Lib.Hide
import Derived.Deep.Quiet
import Derived.Deep.QuietTactic
import Derived.BigQuiet
import Derived.OpenShut
namespace Go.Proofs.YtlibflbpajeeeaaDoor
open Go.RowKit

/-- The mixer at block B: its numbers (an address, how many, their room), its place. -/
structure MixAt (w : World) (B : Nat) (ad : Option Addr) (len cap : Nat) (p : Nat) : Prop where
  sl : w.cell? ⟨B, 0, none⟩ = some (.slice ad len cap)
  at_ : w.cell? ⟨B, 1, none⟩ = some (.int .i64 p)
  free : w.frozen? ⟨B, 1, none⟩ = false
  few : len ≤ 1000
  num : 0 < len → ∃ b off, ad = some ⟨b, off, none⟩ ∧ b < B ∧ ∀ j, j < len → ∃ v : Int, 0 ≤ v ∧ v < 4294967296 ∧ w.cell? ⟨b, off + j, none⟩ = some (.int .u32 v)

/-- Of the world nothing but block B's cells may have turned (and draws made). -/
structure OnlyB (B : Nat) (w w' : World) : Prop where
  os : w'.os = w.os
  tape : w'.tape = w.tape
  output : w'.output = w.output
  size : w'.heap.size = w.heap.size
  block : ∀ k, k ≠ B → w'.heap[k]? = w.heap[k]?

theorem OnlyB.refl (B : Nat) (w : World) : OnlyB B w w := ⟨rfl, rfl, rfl, rfl, fun _ _ => rfl⟩
theorem OnlyB.trans {B : Nat} {a b c : World} (h : OnlyB B a b) (k : OnlyB B b c) : OnlyB B a c :=
  ⟨k.os.trans h.os, k.tape.trans h.tape, k.output.trans h.output, k.size.trans h.size, fun i hi => (k.block i hi).trans (h.block i hi)⟩
theorem OnlyB.below {B : Nat} {a b : World} (h : OnlyB B a b) : Below B a b := ⟨h.os, h.tape, h.output, Nat.le_of_eq h.size.symm, fun k hk => h.block k (by omega)⟩
theorem OnlyB.cell {B : Nat} {a b : World} (h : OnlyB B a b) {x : Addr} (hx : x.block ≠ B) : b.cell? x = a.cell? x := World.cell?_of_block (w := a) (h.block x.block hx)
theorem OnlyB.frozen {B : Nat} {a b : World} (h : OnlyB B a b) {x : Addr} (hx : x.block ≠ B) : b.frozen? x = a.frozen? x := World.frozen?_of_block (w := a) (h.block x.block hx)
theorem OnlyB.step (B q : Nat) (w : World) (v : Value) : OnlyB B w ((w.drewN q).setCell ⟨B, 1, none⟩ v) :=
  ⟨rfl, rfl, rfl, by simp [World.setCell, World.drewN], fun k hk => Below.heap_setCell (w.drewN q) _ _ k hk⟩

/-- The mixer behind a step of its own. -/
theorem MixAt.step {w : World} {B : Nat} {ad : Option Addr} {len cap p : Nat} (h : MixAt w B ad len cap p) (q : Nat) : MixAt ((w.drewN q).setCell ⟨B, 1, none⟩ (.int .i64 ((p : Int) + 1))) B ad len cap (p + 1) where
  sl := by
    rw [World.cell?_setCell_other _ _ _ _ (by simp)]
    exact h.sl
  at_ := by
    rw [World.cell?_setCell_same (w.drewN q) _ _ (show (w.drewN q).cell? ⟨B, 1, none⟩ = some _ from h.at_)]
    rfl
  free := by rw [World.frozen?_setCell]; exact h.free
  few := h.few
  num := fun hl => by
    obtain ⟨b, off, e, hb, hv⟩ := h.num hl
    refine ⟨b, off, e, hb, fun j hj => ?_⟩
    obtain ⟨v, h0, h1, hc⟩ := hv j hj
    refine ⟨v, h0, h1, ?_⟩
    rw [World.cell?_setCell_other _ _ _ _ (by intro e; injection e; omega)]
    exact hc

/-- The mixer in a world of which other blocks alone have turned. -/
theorem MixAt.kept {w w' : World} {B K : Nat} {ad : Option Addr} {len cap p : Nat} (h : MixAt w B ad len cap p) (hb : Below K w w') (hB : B < K) : MixAt w' B ad len cap p where
  sl := (hb.cell (by exact hB)).trans h.sl
  at_ := (hb.cell (by exact hB)).trans h.at_
  free := (hb.frozen (by exact hB)).trans h.free
  few := h.few
  num := fun hl => by
    obtain ⟨b, off, e, hb', hv⟩ := h.num hl
    refine ⟨b, off, e, hb', fun j hj => ?_⟩
    obtain ⟨v, h0, h1, hc⟩ := hv j hj
    exact ⟨v, h0, h1, (hb.cell (by show b < K; omega)).trans hc⟩

def Rolled (B p : Nat) (ad : Option Addr) (len cap : Nat) (w : World) (e : Ending) (w' : World) : Prop :=
  ∃ v : Int, 0 ≤ v ∧ v < 4294967296 ∧ e = .returned (.int .u32 v) ∧ MixAt w' B ad len cap (p + 1) ∧ OnlyB B w w'

theorem rolled_mk {w : World} {B : Nat} {ad : Option Addr} {len cap p : Nat} (h : MixAt w B ad len cap p) (q : Nat) (v : Int) (hv : (Lit.int .u32 v).wf = true) :
    Rolled B p ad len cap w (.returned (.int .u32 v)) ((w.drewN q).setCell ⟨B, 1, none⟩ (.int .i64 ((p : Int) + 1))) := by
  have hb := bounds_u32 hv
  exact ⟨v, hb.1, by omega, rfl, h.step q, OnlyB.step B q w _⟩

set_option maxRecDepth 100000 in
set_option maxHeartbeats 1000000 in
theorem next_some (w : World) (B : Nat) (ad : Option Addr) (len cap p : Nat) (h : MixAt w B ad len cap p) (hl : 0 < len) (hp : p < 1000000000) :
    Calls Tryd.prog 14 #[.pointer (some ⟨B, 0, none⟩)] w (Rolled B p ad len cap w) := by
  obtain ⟨b, off, rfl, hb, hnum⟩ := h.num hl
  obtain ⟨v, hv0, hv1, hcv⟩ := hnum (p % len) (Nat.mod_lt _ hl)
  have hl2 := h.few
  have hsl := h.sl
  have hat := h.at_
  have hfr := h.free
  have hm1 : (p : Int) % (len : Int) < (len : Int) := Int.emod_lt_of_pos _ (by omega)
  have hm0 : 0 ≤ (p : Int) % (len : Int) := Int.emod_nonneg _ (by omega)
  have hq0 : 0 ≤ (p : Int) / (len : Int) := Int.ediv_nonneg (by omega) (by omega)
  have hne : ((len : Int) == 0) = false := by simp; omega
  have H := Lib.hid h
  clear h hnum
  go_enter Tryd.func14, Tryd.ntmps14
  go_wp2_with fail
  go_quiet (fail)
  go_wp2
  go_ret
  exact rolled_mk H.out nq _ (wf_bits _ _ _ _)

set_option maxRecDepth 100000 in
set_option maxHeartbeats 1000000 in
theorem next_none (w : World) (B : Nat) (ad : Option Addr) (cap p : Nat) (h : MixAt w B ad 0 cap p) (hp : p < 1000000000) :
    Calls Tryd.prog 14 #[.pointer (some ⟨B, 0, none⟩)] w (Rolled B p ad 0 cap w) := by
  have hsl := h.sl
  have hat := h.at_
  have hfr := h.free
  have H := Lib.hid h
  clear h
  go_enter Tryd.func14, Tryd.ntmps14
  go_wp2
  go_ret
  exact rolled_mk H.out 0 _ (wf_bits _ _ _ _)

theorem next_any (w : World) (B : Nat) (ad : Option Addr) (len cap p : Nat) (h : MixAt w B ad len cap p) (hp : p < 1000000000) :
    Calls Tryd.prog 14 #[.pointer (some ⟨B, 0, none⟩)] w (Rolled B p ad len cap w) := by
  by_cases hl : 0 < len
  · exact next_some w B ad len cap p h hl hp
  · obtain rfl : len = 0 := by omega
    exact next_none w B ad cap p h hp

def RolledBelow (B p : Nat) (ad : Option Addr) (len cap : Nat) (n : Int) (w : World) (e : Ending) (w' : World) : Prop :=
  ∃ v : Int, 0 ≤ v ∧ v < n ∧ e = .returned (.int .i64 v) ∧ MixAt w' B ad len cap (p + 1) ∧ OnlyB B w w'

set_option maxRecDepth 100000 in
set_option maxHeartbeats 1000000 in
theorem below_any (n : Int) (hn0 : 0 < n) (hn1 : n ≤ 1000000) (w : World) (B : Nat) (ad : Option Addr) (len cap p : Nat) (h : MixAt w B ad len cap p) (hp : p < 1000000000) :
    Calls Tryd.prog 4 #[.pointer (some ⟨B, 0, none⟩), .int .i64 n] w (RolledBelow B p ad len cap n w) := by
  have H := Lib.hid h
  clear h
  have hnz : (n == 0) = false := by simp; omega
  go_enter Tryd.func4, Tryd.ntmps4
  go_wp2_with fail
  refine (next_any w B ad len cap p H.out hp).mono ?_
  rintro e w1 ⟨v, hv0, hv1, rfl, hm, ho⟩
  have HM := Lib.hid hm
  have HO := Lib.hid ho
  clear hm ho
  have hd0 : 0 ≤ v / 32 := by omega
  have hd1 : v / 32 < 134217728 := by omega
  go_wp2_with fail
  go_ret
  exact ⟨(v / 32) % n, Int.emod_nonneg _ (by omega), Int.emod_lt_of_pos _ hn0, rfl, HM.out, HO.out⟩

end Go.Proofs.YtlibflbpajeeeaaDoor
