/- The walk of fcol: what the Go text of this loop leaves in its block of 64 numbers: the plain steps of Pl over what it held; all else in memory as it was. Conditions: the block holds 64 int32 numbers and is not frozen. The walk of frow: what the Go text of this loop leaves in its block of 64 numbers: the plain steps of Pl over what it held; all else in memory as it was. Conditions: the block holds 64 int32 numbers and is not frozen. (Joined by wip/gen/merge.py.) -/
import Derived.Test.YtlibflbpajeeeaaDoorRows
import Derived.Test.YtlibflbpajeeeaaDoorJPl
import Derived.WalkKit
import Derived.Lib.Hide
namespace Go.Proofs.YtlibflbpajeeeaaDoor
open Go.RowKit Go.Sort


set_option maxRecDepth 100000 in
set_option maxHeartbeats 4000000 in
theorem fcol_any (b : Nat) (d : Array Int) (w : World) (hd : d.size = 64) (hh : Holds i32v w b 0 d) :
    Calls Tryd.prog 64 #[.pointer (some ⟨b, 0, none⟩)] w fun e w' => e = .returned (.tuple #[]) ∧ w' = putRow i32v w b 0 (fcolsA d) := by
  go_enter Tryd.func64, Tryd.ntmps64
  have HH := Lib.hid hh
  have HD := Lib.hid hd
  clear hh hd
  go_wp2
  go_loopw [11] (fun i wr => ∃ k : Nat, k ≤ 8 ∧ i = .int .i64 k ∧ wr = putRow i32v w b 0 (steps colAt ordF fcol k d)) (fun i _ => 8 - (intOf i).toNat)
  case atStart => exact ⟨0, Nat.zero_le _, rfl, (putRow_self i32v w b 0 d HH.out).symm⟩
  case round =>
    obtain ⟨k, hk, rfl, hw⟩ := hrel
    by_cases hlt : k < 8
    · have hS : (steps colAt ordF fcol k d).size = 64 := by rw [size_steps]; exact HD.out
      obtain ⟨D, hD⟩ : ∃ D, D = steps colAt ordF fcol k d := ⟨_, rfl⟩
      rw [← hD] at hw hS
      obtain ⟨x0, g0⟩ : ∃ x, x = D[colAt k 0]! := ⟨_, rfl⟩
      have c0 : wr.cell? { block := b, off := k } = some (.int .i32 x0) := by rw [hw, g0, show colAt k 0 = k by unfold colAt; omega]; exact cell_of w b d D HH.out (by rw [hS, HD.out]) (k) (by omega)
      have f0 : wr.frozen? { block := b, off := k } = false := by rw [hw]; exact free_of w b d D HH.out (by rw [hS, HD.out]) (k) (by omega)
      obtain ⟨x1, g1⟩ : ∃ x, x = D[colAt k 1]! := ⟨_, rfl⟩
      have c1 : wr.cell? { block := b, off := 8 + k } = some (.int .i32 x1) := by rw [hw, g1, show colAt k 1 = 8 + k by unfold colAt; omega]; exact cell_of w b d D HH.out (by rw [hS, HD.out]) (8 + k) (by omega)
      have f1 : wr.frozen? { block := b, off := 8 + k } = false := by rw [hw]; exact free_of w b d D HH.out (by rw [hS, HD.out]) (8 + k) (by omega)
      obtain ⟨x2, g2⟩ : ∃ x, x = D[colAt k 2]! := ⟨_, rfl⟩
      have c2 : wr.cell? { block := b, off := 16 + k } = some (.int .i32 x2) := by rw [hw, g2, show colAt k 2 = 16 + k by unfold colAt; omega]; exact cell_of w b d D HH.out (by rw [hS, HD.out]) (16 + k) (by omega)
      have f2 : wr.frozen? { block := b, off := 16 + k } = false := by rw [hw]; exact free_of w b d D HH.out (by rw [hS, HD.out]) (16 + k) (by omega)
      obtain ⟨x3, g3⟩ : ∃ x, x = D[colAt k 3]! := ⟨_, rfl⟩
      have c3 : wr.cell? { block := b, off := 24 + k } = some (.int .i32 x3) := by rw [hw, g3, show colAt k 3 = 24 + k by unfold colAt; omega]; exact cell_of w b d D HH.out (by rw [hS, HD.out]) (24 + k) (by omega)
      have f3 : wr.frozen? { block := b, off := 24 + k } = false := by rw [hw]; exact free_of w b d D HH.out (by rw [hS, HD.out]) (24 + k) (by omega)
      obtain ⟨x4, g4⟩ : ∃ x, x = D[colAt k 4]! := ⟨_, rfl⟩
      have c4 : wr.cell? { block := b, off := 32 + k } = some (.int .i32 x4) := by rw [hw, g4, show colAt k 4 = 32 + k by unfold colAt; omega]; exact cell_of w b d D HH.out (by rw [hS, HD.out]) (32 + k) (by omega)
      have f4 : wr.frozen? { block := b, off := 32 + k } = false := by rw [hw]; exact free_of w b d D HH.out (by rw [hS, HD.out]) (32 + k) (by omega)
      obtain ⟨x5, g5⟩ : ∃ x, x = D[colAt k 5]! := ⟨_, rfl⟩
      have c5 : wr.cell? { block := b, off := 40 + k } = some (.int .i32 x5) := by rw [hw, g5, show colAt k 5 = 40 + k by unfold colAt; omega]; exact cell_of w b d D HH.out (by rw [hS, HD.out]) (40 + k) (by omega)
      have f5 : wr.frozen? { block := b, off := 40 + k } = false := by rw [hw]; exact free_of w b d D HH.out (by rw [hS, HD.out]) (40 + k) (by omega)
      obtain ⟨x6, g6⟩ : ∃ x, x = D[colAt k 6]! := ⟨_, rfl⟩
      have c6 : wr.cell? { block := b, off := 48 + k } = some (.int .i32 x6) := by rw [hw, g6, show colAt k 6 = 48 + k by unfold colAt; omega]; exact cell_of w b d D HH.out (by rw [hS, HD.out]) (48 + k) (by omega)
      have f6 : wr.frozen? { block := b, off := 48 + k } = false := by rw [hw]; exact free_of w b d D HH.out (by rw [hS, HD.out]) (48 + k) (by omega)
      obtain ⟨x7, g7⟩ : ∃ x, x = D[colAt k 7]! := ⟨_, rfl⟩
      have c7 : wr.cell? { block := b, off := 56 + k } = some (.int .i32 x7) := by rw [hw, g7, show colAt k 7 = 56 + k by unfold colAt; omega]; exact cell_of w b d D HH.out (by rw [hS, HD.out]) (56 + k) (by omega)
      have f7 : wr.frozen? { block := b, off := 56 + k } = false := by rw [hw]; exact free_of w b d D HH.out (by rw [hS, HD.out]) (56 + k) (by omega)
      have HW := Lib.hid hw
      have HSz := Lib.hid hS
      have HDd := Lib.hid hD
      have G0 := Lib.hid g0
      have G1 := Lib.hid g1
      have G2 := Lib.hid g2
      have G3 := Lib.hid g3
      have G4 := Lib.hid g4
      have G5 := Lib.hid g5
      have G6 := Lib.hid g6
      have G7 := Lib.hid g7
      clear hw hS hD g0 g1 g2 g3 g4 g5 g6 g7
      go_wp2
      go_roundw
      case rel =>
        refine ⟨k + 1, by omega, by go_num, ?_⟩
        have hl : line (colAt k) D = [x0, x1, x2, x3, x4, x5, x6, x7] := by rw [G0.out, G1.out, G2.out, G3.out, G4.out, G5.out, G6.out, G7.out]; rfl
        have hst : steps colAt ordF fcol (k + 1) d = putAll (colAt k) (fcol [x0, x1, x2, x3, x4, x5, x6, x7]) [0, 4, 2, 6, 1, 3, 5, 7] D := by
          show stepAt colAt ordF fcol k (steps colAt ordF fcol k d) = _
          rw [← HDd.out]
          unfold stepAt
          rw [hl]
          rfl
        rw [hst]
        exact put_eight w wr b D (colAt k) (fcol [x0, x1, x2, x3, x4, x5, x6, x7]) 0 4 2 6 1 3 5 7 (k) (32 + k) (16 + k) (48 + k) (8 + k) (24 + k) (40 + k) (56 + k) _ _ _ _ _ _ _ _ HW.out HSz.out (by unfold colAt; omega) (by unfold colAt; omega) (by unfold colAt; omega) (by unfold colAt; omega) (by unfold colAt; omega) (by unfold colAt; omega) (by unfold colAt; omega) (by unfold colAt; omega) (by omega) (by omega) (by omega) (by omega) (by omega) (by omega) (by omega) (by omega) (by kernel_rfl) (by kernel_rfl) (by kernel_rfl) (by kernel_rfl) (by kernel_rfl) (by kernel_rfl) (by kernel_rfl) (by kernel_rfl)
      case measure => simp [intOf]; omega
    · have hk8 : k = 8 := by omega
      subst hk8
      have HW := Lib.hid hw
      clear hw
      go_wp2
      go_end0
      exact ⟨rfl, HW.out⟩

end Go.Proofs.YtlibflbpajeeeaaDoor

namespace Go.Proofs.YtlibflbpajeeeaaDoor
open Go.RowKit Go.Sort


theorem slice8_frow (b k : Nat) (hk : k < 8) (w : World) : (Instr.sliceAt 126 (.pointer (some { block := b, off := 0 })) (some (.int .i64 (8 * (k : Int)))) (some (.int .i64 (8 * (k : Int) + 8))) (some (.int .i64 (8 * (k : Int) + 8)))).run Tryd.prog w = .ok (.slice (some ⟨b, 8 * k, none⟩) 8 8) w := by
  have hl : Tryd.prog.arrayLen 126 = 64 := by kernel_rfl
  have hu : Tryd.prog.underlying 126 = some (.array (Tryd.prog.arrayLen 126) (Tryd.prog.elem 126)) := by kernel_rfl
  have hs : (sizeOf (Tryd.prog.elem 126)).run Tryd.prog w = .ok 1 w := by kernel_rfl
  rw [run_sliceAt_array_lhm w 126 ⟨b, 0, none⟩ hu .i64 .i64 .i64 _ _ _ (by omega) (by omega) (by omega) (by rw [hl]; omega), hs]
  have e1 : (8 * (k : Int)).toNat = 8 * k := by omega
  have e2 : (8 * (k : Int) + 8).toNat = 8 * k + 8 := by omega
  simp only [Result.andThen, slicedAt, Addr.add, e1, e2]
  rw [if_neg (by omega)]
  simp
  omega


set_option maxRecDepth 100000 in
set_option maxHeartbeats 4000000 in
theorem frow_any (b : Nat) (d : Array Int) (w : World) (hd : d.size = 64) (hh : Holds i32v w b 0 d) :
    Calls Tryd.prog 65 #[.pointer (some ⟨b, 0, none⟩)] w fun e w' => e = .returned (.tuple #[]) ∧ w' = putRow i32v w b 0 (frowsA d) := by
  go_enter Tryd.func65, Tryd.ntmps65
  have HH := Lib.hid hh
  have HD := Lib.hid hd
  clear hh hd
  go_wp2
  go_loopw [12] (fun i wr => ∃ k : Nat, k ≤ 8 ∧ i = .int .i64 k ∧ wr = putRow i32v w b 0 (steps rowAt ordAll frow k d)) (fun i _ => 8 - (intOf i).toNat)
  case atStart => exact ⟨0, Nat.zero_le _, rfl, (putRow_self i32v w b 0 d HH.out).symm⟩
  case round =>
    obtain ⟨k, hk, rfl, hw⟩ := hrel
    by_cases hlt : k < 8
    · have hS : (steps rowAt ordAll frow k d).size = 64 := by rw [size_steps]; exact HD.out
      obtain ⟨D, hD⟩ : ∃ D, D = steps rowAt ordAll frow k d := ⟨_, rfl⟩
      rw [← hD] at hw hS
      obtain ⟨x0, g0⟩ : ∃ x, x = D[rowAt k 0]! := ⟨_, rfl⟩
      have c0 : wr.cell? { block := b, off := 8 * k } = some (.int .i32 x0) := by rw [hw, g0, show rowAt k 0 = 8 * k by unfold rowAt; omega]; exact cell_of w b d D HH.out (by rw [hS, HD.out]) (8 * k) (by omega)
      have f0 : wr.frozen? { block := b, off := 8 * k } = false := by rw [hw]; exact free_of w b d D HH.out (by rw [hS, HD.out]) (8 * k) (by omega)
      obtain ⟨x1, g1⟩ : ∃ x, x = D[rowAt k 1]! := ⟨_, rfl⟩
      have c1 : wr.cell? { block := b, off := 8 * k + 1 } = some (.int .i32 x1) := by rw [hw, g1, show rowAt k 1 = 8 * k + 1 by unfold rowAt; omega]; exact cell_of w b d D HH.out (by rw [hS, HD.out]) (8 * k + 1) (by omega)
      have f1 : wr.frozen? { block := b, off := 8 * k + 1 } = false := by rw [hw]; exact free_of w b d D HH.out (by rw [hS, HD.out]) (8 * k + 1) (by omega)
      obtain ⟨x2, g2⟩ : ∃ x, x = D[rowAt k 2]! := ⟨_, rfl⟩
      have c2 : wr.cell? { block := b, off := 8 * k + 2 } = some (.int .i32 x2) := by rw [hw, g2, show rowAt k 2 = 8 * k + 2 by unfold rowAt; omega]; exact cell_of w b d D HH.out (by rw [hS, HD.out]) (8 * k + 2) (by omega)
      have f2 : wr.frozen? { block := b, off := 8 * k + 2 } = false := by rw [hw]; exact free_of w b d D HH.out (by rw [hS, HD.out]) (8 * k + 2) (by omega)
      obtain ⟨x3, g3⟩ : ∃ x, x = D[rowAt k 3]! := ⟨_, rfl⟩
      have c3 : wr.cell? { block := b, off := 8 * k + 3 } = some (.int .i32 x3) := by rw [hw, g3, show rowAt k 3 = 8 * k + 3 by unfold rowAt; omega]; exact cell_of w b d D HH.out (by rw [hS, HD.out]) (8 * k + 3) (by omega)
      have f3 : wr.frozen? { block := b, off := 8 * k + 3 } = false := by rw [hw]; exact free_of w b d D HH.out (by rw [hS, HD.out]) (8 * k + 3) (by omega)
      obtain ⟨x4, g4⟩ : ∃ x, x = D[rowAt k 4]! := ⟨_, rfl⟩
      have c4 : wr.cell? { block := b, off := 8 * k + 4 } = some (.int .i32 x4) := by rw [hw, g4, show rowAt k 4 = 8 * k + 4 by unfold rowAt; omega]; exact cell_of w b d D HH.out (by rw [hS, HD.out]) (8 * k + 4) (by omega)
      have f4 : wr.frozen? { block := b, off := 8 * k + 4 } = false := by rw [hw]; exact free_of w b d D HH.out (by rw [hS, HD.out]) (8 * k + 4) (by omega)
      obtain ⟨x5, g5⟩ : ∃ x, x = D[rowAt k 5]! := ⟨_, rfl⟩
      have c5 : wr.cell? { block := b, off := 8 * k + 5 } = some (.int .i32 x5) := by rw [hw, g5, show rowAt k 5 = 8 * k + 5 by unfold rowAt; omega]; exact cell_of w b d D HH.out (by rw [hS, HD.out]) (8 * k + 5) (by omega)
      have f5 : wr.frozen? { block := b, off := 8 * k + 5 } = false := by rw [hw]; exact free_of w b d D HH.out (by rw [hS, HD.out]) (8 * k + 5) (by omega)
      obtain ⟨x6, g6⟩ : ∃ x, x = D[rowAt k 6]! := ⟨_, rfl⟩
      have c6 : wr.cell? { block := b, off := 8 * k + 6 } = some (.int .i32 x6) := by rw [hw, g6, show rowAt k 6 = 8 * k + 6 by unfold rowAt; omega]; exact cell_of w b d D HH.out (by rw [hS, HD.out]) (8 * k + 6) (by omega)
      have f6 : wr.frozen? { block := b, off := 8 * k + 6 } = false := by rw [hw]; exact free_of w b d D HH.out (by rw [hS, HD.out]) (8 * k + 6) (by omega)
      obtain ⟨x7, g7⟩ : ∃ x, x = D[rowAt k 7]! := ⟨_, rfl⟩
      have c7 : wr.cell? { block := b, off := 8 * k + 7 } = some (.int .i32 x7) := by rw [hw, g7, show rowAt k 7 = 8 * k + 7 by unfold rowAt; omega]; exact cell_of w b d D HH.out (by rw [hS, HD.out]) (8 * k + 7) (by omega)
      have f7 : wr.frozen? { block := b, off := 8 * k + 7 } = false := by rw [hw]; exact free_of w b d D HH.out (by rw [hS, HD.out]) (8 * k + 7) (by omega)
      have HW := Lib.hid hw
      have HSz := Lib.hid hS
      have HDd := Lib.hid hD
      have G0 := Lib.hid g0
      have G1 := Lib.hid g1
      have G2 := Lib.hid g2
      have G3 := Lib.hid g3
      have G4 := Lib.hid g4
      have G5 := Lib.hid g5
      have G6 := Lib.hid g6
      have G7 := Lib.hid g7
      clear hw hS hD g0 g1 g2 g3 g4 g5 g6 g7
      have hsl := slice8_frow b k hlt
      go_wp2
      go_roundw
      case rel =>
        refine ⟨k + 1, by omega, by go_num, ?_⟩
        have hl : line (rowAt k) D = [x0, x1, x2, x3, x4, x5, x6, x7] := by rw [G0.out, G1.out, G2.out, G3.out, G4.out, G5.out, G6.out, G7.out]; rfl
        have hst : steps rowAt ordAll frow (k + 1) d = putAll (rowAt k) (frow [x0, x1, x2, x3, x4, x5, x6, x7]) [0, 1, 2, 3, 4, 5, 6, 7] D := by
          show stepAt rowAt ordAll frow k (steps rowAt ordAll frow k d) = _
          rw [← HDd.out]
          unfold stepAt
          rw [hl]
          rfl
        rw [hst]
        exact put_eight w wr b D (rowAt k) (frow [x0, x1, x2, x3, x4, x5, x6, x7]) 0 1 2 3 4 5 6 7 (8 * k) (8 * k + 1) (8 * k + 2) (8 * k + 3) (8 * k + 4) (8 * k + 5) (8 * k + 6) (8 * k + 7) _ _ _ _ _ _ _ _ HW.out HSz.out (by unfold rowAt; omega) (by unfold rowAt; omega) (by unfold rowAt; omega) (by unfold rowAt; omega) (by unfold rowAt; omega) (by unfold rowAt; omega) (by unfold rowAt; omega) (by unfold rowAt; omega) (by omega) (by omega) (by omega) (by omega) (by omega) (by omega) (by omega) (by omega) (by kernel_rfl) (by kernel_rfl) (by kernel_rfl) (by kernel_rfl) (by kernel_rfl) (by kernel_rfl) (by kernel_rfl) (by kernel_rfl)
      case measure => simp [intOf]; omega
    · have hk8 : k = 8 := by omega
      subst hk8
      have HW := Lib.hid hw
      clear hw
      go_wp2
      go_end0
      exact ⟨rfl, HW.out⟩

end Go.Proofs.YtlibflbpajeeeaaDoor
