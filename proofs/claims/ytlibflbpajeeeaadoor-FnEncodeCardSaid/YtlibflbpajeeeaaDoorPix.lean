/- The contract of the laws' pixels: a new slice of n bytes; of what was there the mixer alone has turned. Conditions: the mixer lies there, n from 0 to 100000. -/
import Derived.Test.YtlibflbpajeeeaaDoorMix
import Derived.OwnWalk
namespace Go.Proofs.YtlibflbpajeeeaaDoor
open Go.RowKit

/-- Below block K nothing but block B has turned. -/
structure Apart (K B : Nat) (w w' : World) : Prop where
  os : w'.os = w.os
  tape : w'.tape = w.tape
  output : w'.output = w.output
  size : w.heap.size ≤ w'.heap.size
  block : ∀ k, k < K → k ≠ B → w'.heap[k]? = w.heap[k]?
theorem Apart.refl (K B : Nat) (w : World) : Apart K B w w := ⟨rfl, rfl, rfl, Nat.le_refl _, fun _ _ _ => rfl⟩
theorem Apart.trans {K B : Nat} {a b c : World} (h : Apart K B a b) (k : Apart K B b c) : Apart K B a c :=
  ⟨k.os.trans h.os, k.tape.trans h.tape, k.output.trans h.output, Nat.le_trans h.size k.size, fun i hi hb => (k.block i hi hb).trans (h.block i hi hb)⟩
theorem OnlyB.apart {B : Nat} {a b : World} (h : OnlyB B a b) (K : Nat) : Apart K B a b := ⟨h.os, h.tape, h.output, Nat.le_of_eq h.size.symm, fun k _ hb => h.block k hb⟩
theorem Below_apart {K : Nat} {a b : World} (h : Below K a b) (B : Nat) : Apart K B a b := ⟨h.os, h.tape, h.output, h.size, fun k hk _ => h.block k hk⟩
theorem Apart.below {K B : Nat} {a b : World} (h : Apart K B a b) (J : Nat) (h1 : J ≤ K) (h2 : J ≤ B) : Below J a b := ⟨h.os, h.tape, h.output, h.size, fun k hk => h.block k (by omega) (by omega)⟩

theorem OnlyB.owns {B base : Nat} {a b : World} {e : TypeId} {v : Value} {n : Nat} {xs : List Value} (h : OnlyB B a b) (ho : a.ownsRow base e 1 v n xs) (hB : B < base) : b.ownsRow base e 1 v n xs := by
  refine ⟨ho.1, ?_⟩
  rcases ho.2 with h1 | ⟨g, cap, cur, hv, hb, hg, r⟩
  · exact .inl h1
  · exact .inr ⟨g, cap, cur, hv, hb, (h.block g (by omega)).trans hg, r⟩

/-- What the loop of pixels holds behind k rounds. -/
def PixRel (w : World) (B : Nat) (ad : Option Addr) (len cap p0 k : Nat) (v t : Value) (wr : World) : Prop :=
  ∃ (L : List Int) (p : Nat) (x : Int), t = .int .u8 x ∧ (0 ≤ x ∧ x ≤ 255) ∧ L.length = k ∧ (∀ y ∈ L, 0 ≤ y ∧ y ≤ 255) ∧ wr.ownsRow w.heap.size 5 1 v k (L.map (Value.int .u8)) ∧ MixAt wr B ad len cap p ∧ (p0 ≤ p ∧ p ≤ p0 + 1 + 3 * k) ∧ Apart w.heap.size B w wr

theorem pix_push {w wx w1 : World} {B : Nat} {ad : Option Addr} {len cap p0 p k : Nat} {v v' : Value} {L : List Int} {x : Int} {t : TypeId} (hB : B < w.heap.size) (hx : 0 ≤ x ∧ x ≤ 255) (hL : L.length = k) (hb : ∀ y ∈ L, 0 ≤ y ∧ y ≤ 255)
    (hown : wx.ownsRow w.heap.size 5 1 v k (L.map (Value.int .u8))) (hm : MixAt wx B ad len cap p) (hp : p0 ≤ p ∧ p ≤ p0 + 1 + 3 * (k + 1)) (ha : Apart w.heap.size B w wx)
    (hown' : w1.ownsRow w.heap.size 5 1 v' (k + 1) (L.map (Value.int .u8) ++ [.int .u8 x])) (hg : (wx.alloc (.cells #[.int .u8 x] t)).grownBy w1 v.ownBlock) :
    PixRel w B ad len cap p0 (k + 1) v' (.int .u8 x) w1 := by
  have hbel : Below w.heap.size wx w1 := ((Below.refl _ _).alloc ha.size _).grown hg (by simp; have := ha.size; omega) (fun j hj => (hown.lt j hj).1)
  refine ⟨L ++ [x], p, x, rfl, hx, by simp [hL], ?_, by simpa using hown', hm.kept hbel hB, hp, ha.trans (Below_apart hbel B)⟩
  intro y hy
  rcases List.mem_append.1 hy with h | h
  · exact hb y h
  · simp at h; subst h; exact hx

def PixPost (w : World) (B : Nat) (ad : Option Addr) (len cap p0 : Nat) (n : Nat) (e : Ending) (w' : World) : Prop :=
  ∃ (v : Value) (L : List Int) (p : Nat), e = .returned v ∧ L.length = n ∧ (∀ y ∈ L, 0 ≤ y ∧ y ≤ 255) ∧ w'.ownsRow w.heap.size 5 1 v n (L.map (Value.int .u8)) ∧ MixAt w' B ad len cap p ∧ (p0 ≤ p ∧ p ≤ p0 + 1 + 3 * n) ∧ Apart w.heap.size B w w'

theorem byte_mod (v : Int) : 0 ≤ v % 256 ∧ v % 256 ≤ 255 := by omega

theorem Tryd.infoPix : (Tryd.prog.info? 5).map (fun i => (i.zero, i.size, i.bytes)) = some (some (.int .u8 0), 1, 1) := by kernel_rfl

set_option maxRecDepth 100000 in
set_option maxHeartbeats 4000000 in
theorem pixels_any (n : Nat) (hn : n ≤ 100000) (w : World) (B : Nat) (ad : Option Addr) (len cap p0 : Nat) (hB : B < w.heap.size) (h : MixAt w B ad len cap p0) (hp : p0 < 1000000) :
    Calls Tryd.prog 6 #[.pointer (some ⟨B, 0, none⟩), .int .i64 (n : Int)] w (PixPost w B ad len cap p0 n) := by
  obtain ⟨i0, hi, hz0, hz1, hz2⟩ := info_parts Tryd.infoPix
  have HI := Lib.hid hi
  have HZ0 := Lib.hid hz0
  have HZ1 := Lib.hid hz1
  have HZ2 := Lib.hid hz2
  have H := Lib.hid h
  clear h hi hz0 hz1 hz2
  have hn' : (n : Int) ≤ 100000 := by omega
  go_enter Tryd.func6, Tryd.ntmps6
  go_wp2_with fail
  refine (next_any _ B ad len cap p0 (H.out.kept ((Below.refl _ _).alloc (Nat.le_refl _) _) hB) (by omega)).mono ?_
  rintro e w1 ⟨v, hv0, hv1, rfl, hm, ho⟩
  have HM := Lib.hid hm
  have HO := Lib.hid ho
  clear hm ho
  have hbv := byte_mod v
  obtain ⟨hbv0, hbv1⟩ := hbv
  go_wp2_with fail
  go_loopw [5, 6, 12] (fun v t i wr => ∃ k : Nat, k ≤ n ∧ i = .int .i64 k ∧ PixRel w B ad len cap p0 k v t wr) (fun _ _ i _ => n - (intOf i).toNat)
  case atStart =>
    refine ⟨0, Nat.zero_le _, rfl, [], p0 + 1, _, rfl, ⟨by omega, by omega⟩, rfl, (fun y hy => by cases hy), ?_, HM.out, ⟨by omega, by omega⟩, ?_⟩
    · exact HO.out.owns (World.ownsRow_made w #[] 0 (Nat.le_refl _) (Nat.zero_le _) rfl) hB
    · exact (Below_apart ((Below.refl _ _).alloc (Nat.le_refl _) _) B).trans (HO.out.apart _)
  case round =>
    obtain ⟨k, hk, rfl, L, p, x, rfl, ⟨hx0, hx1⟩, hL, hbL, hown, hm, ⟨hp0, hp1⟩, hap⟩ := hrel
    have HL := Lib.hid hL
    have HB := Lib.hid hbL
    have HW := Lib.hid hown
    have HM2 := Lib.hid hm
    have HA := Lib.hid hap
    clear hL hbL hown hm hap
    by_cases hlt : k < n
    · go_wp2_with fail
      refine (below_any 4 (by omega) (by omega) _ B ad len cap p HM2.out (by omega)).mono ?_
      rintro e w2 ⟨y, hy0, hy1, rfl, hm2, ho2⟩
      have HM3 := Lib.hid hm2
      have HO3 := Lib.hid ho2
      clear hm2 ho2
      by_cases e0 : y = 0
      · subst e0
        go_wp2_with fail
        refine (next_any _ B ad len cap (p + 1) HM3.out (by omega)).mono ?_
        rintro e w3 ⟨z, hz0, hz1, rfl, hm3, ho3⟩
        have HM4 := Lib.hid hm3
        have HO4 := Lib.hid ho3
        clear hm3 ho3
        have HOWN := Lib.hid (HO4.out.owns (HO3.out.owns HW.out hB) hB)
        have HMX := Lib.hid (HM4.out)
        have HAP := Lib.hid ((HA.out.trans (HO3.out.apart _)).trans (HO4.out.apart _))
        go_wp2_with (at_builtin; refine wpList_append_own _ rfl _ _ 32 rfl w.heap.size 5 i0 (.int .u8 0) 1 1 Tryd.underlying32 HI.out HZ0.out HZ1.out HZ2.out rfl (by decide) _ _ _ rfl (HOWN.out.alloc _) ⟨w3.heap.size, 0, none⟩ 1 1 [.int .u8 (z % 256)] rfl rfl ?_ ?_ ?_ ?_ ?_ ?_)
        · intro j u hj
          match j, hj with
          | 0, hj => simp at hj; subst hj; simp [Addr.add]
        · intro u hu; simp at hu; subst hu; rfl
        · unfold maxLen; omega
        · omega
        · simp; have := HAP.out.size; omega
        intro v' w9 hown' hgrow _
        have HOWN' := Lib.hid hown'
        have HG := Lib.hid hgrow
        clear hown' hgrow
        go_wp2_with fail
        go_roundw
        case rel => exact ⟨k + 1, by omega, by go_num, pix_push hB ⟨by omega, by omega⟩ HL.out HB.out HOWN.out HMX.out (by omega) HAP.out HOWN'.out HG.out⟩
        case measure => simp [intOf]; omega
      · have b0 : (y == 0) = false := by simp; omega
        by_cases e1 : y = 1
        · subst e1
          clear e0
          go_wp2_with fail
          refine (below_any 9 (by omega) (by omega) _ B ad len cap (p + 1) HM3.out (by omega)).mono ?_
          rintro e w3 ⟨z, hz0, hz1, rfl, hm3, ho3⟩
          have HM4 := Lib.hid hm3
          have HO4 := Lib.hid ho3
          clear hm3 ho3
          have HOWN := Lib.hid (HO4.out.owns (HO3.out.owns HW.out hB) hB)
          have HMX := Lib.hid (HM4.out)
          have HAP := Lib.hid ((HA.out.trans (HO3.out.apart _)).trans (HO4.out.apart _))
          go_wp2_with (at_builtin; refine wpList_append_own _ rfl _ _ 32 rfl w.heap.size 5 i0 (.int .u8 0) 1 1 Tryd.underlying32 HI.out HZ0.out HZ1.out HZ2.out rfl (by decide) _ _ _ rfl (HOWN.out.alloc _) ⟨w3.heap.size, 0, none⟩ 1 1 [.int .u8 ((x + z) % 256)] rfl rfl ?_ ?_ ?_ ?_ ?_ ?_)
          · intro j u hj
            match j, hj with
            | 0, hj => simp at hj; subst hj; simp [Addr.add]
          · intro u hu; simp at hu; subst hu; rfl
          · unfold maxLen; omega
          · omega
          · simp; have := HAP.out.size; omega
          intro v' w9 hown' hgrow _
          have HOWN' := Lib.hid hown'
          have HG := Lib.hid hgrow
          clear hown' hgrow
          go_wp2_with fail
          go_roundw
          case rel => exact ⟨k + 1, by omega, by go_num, pix_push hB ⟨by omega, by omega⟩ HL.out HB.out HOWN.out HMX.out (by omega) HAP.out HOWN'.out HG.out⟩
          case measure => simp [intOf]; omega
        · have b1 : (y == 1) = false := by simp; omega
          clear e0 e1
          have HOWN := Lib.hid (HO3.out.owns HW.out hB)
          have HMX := Lib.hid (HM3.out)
          have HAP := Lib.hid (HA.out.trans (HO3.out.apart _))
          go_wp2_with (at_builtin; refine wpList_append_own _ rfl _ _ 32 rfl w.heap.size 5 i0 (.int .u8 0) 1 1 Tryd.underlying32 HI.out HZ0.out HZ1.out HZ2.out rfl (by decide) _ _ _ rfl (HOWN.out.alloc _) ⟨w2.heap.size, 0, none⟩ 1 1 [.int .u8 (x)] rfl rfl ?_ ?_ ?_ ?_ ?_ ?_)
          · intro j u hj
            match j, hj with
            | 0, hj => simp at hj; subst hj; simp [Addr.add]
          · intro u hu; simp at hu; subst hu; rfl
          · unfold maxLen; omega
          · omega
          · simp; have := HAP.out.size; omega
          intro v' w9 hown' hgrow _
          have HOWN' := Lib.hid hown'
          have HG := Lib.hid hgrow
          clear hown' hgrow
          go_wp2_with fail
          go_roundw
          case rel => exact ⟨k + 1, by omega, by go_num, pix_push hB ⟨by omega, by omega⟩ HL.out HB.out HOWN.out HMX.out (by omega) HAP.out HOWN'.out HG.out⟩
          case measure => simp [intOf]; omega
    · obtain rfl : k = n := by omega
      go_wp2_with fail
      go_ret
      exact ⟨_, L, p, rfl, HL.out, HB.out, HW.out, HM2.out, ⟨by omega, by omega⟩, HA.out⟩

end Go.Proofs.YtlibflbpajeeeaaDoor
