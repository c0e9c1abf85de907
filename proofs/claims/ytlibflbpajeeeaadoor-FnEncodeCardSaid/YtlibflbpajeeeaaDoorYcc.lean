/- The contracts of RGBToYCbCr and of the reference's YCC: one plain function. -/
import Derived.Test.YtlibflbpajeeeaaDoorRows
import Derived.WalkKit
import Derived.Lib.Hide
import Derived.Laws.BitsAllLaws
import Derived.Handy
namespace Go.Proofs.YtlibflbpajeeeaaDoor
open Go.RowKit

def cut8 (n : Int) : Int := min (max (n / 65536) 0) 255
def lumaOf (r g b : Int) : Int := (19595 * r + 38470 * g + 7471 * b + 32768) / 65536
def cbOf (r g b : Int) : Int := cut8 (-11056 * r - 21712 * g + 32768 * b + 8421376)
def crOf (r g b : Int) : Int := cut8 (32768 * r - 27440 * g - 5328 * b + 8421376)

theorem high_clear (x : Int) (h0 : 0 ≤ x) (h1 : x < 16777216) : bits BinOp.and IntKind.u32 x 4278190080 = 0 := by
  rw [u32_and _ _ h0 (by omega) (by decide) (by decide)]
  obtain ⟨a, rfl⟩ := Int.eq_ofNat_of_zero_le h0
  have ha : a < 2 ^ 24 := by omega
  rw [Int.toNat_natCast, show ((4278190080 : Int)).toNat = 255 <<< 24 from rfl]
  have : a &&& 255 <<< 24 = 0 := by
    apply Nat.eq_of_testBit_eq
    intro i
    rw [Nat.testBit_and, Nat.testBit_shiftLeft, Nat.zero_testBit]
    by_cases hi : 24 ≤ i
    · rw [Nat.testBit_lt_two_pow (Nat.lt_of_lt_of_le ha (Nat.pow_le_pow_right (by decide) hi))]; simp
    · simp [hi]
  rw [this]
  rfl
theorem high_set : bits BinOp.and IntKind.u32 16777216 4278190080 = 16777216 := by decide +kernel
theorem cut8_in (x : Int) (h0 : 0 ≤ x) (h1 : x < 16777216) : x / 65536 = cut8 x := by unfold cut8; omega
theorem cut8_top : cut8 16777216 = 255 := by decide


set_option maxRecDepth 100000 in
set_option maxHeartbeats 1000000 in
theorem rgb_00 (r g b : Int) (w : World) (hr : 0 ≤ r ∧ r ≤ 255) (hg : 0 ≤ g ∧ g ≤ 255) (hb : 0 ≤ b ∧ b ≤ 255) (h1 : (-11056 * r - 21712 * g + 32768 * b + 8421376) < 16777216) (h2 : (32768 * r - 27440 * g - 5328 * b + 8421376) < 16777216) :
    Calls Tryd.prog 72 #[.int .u8 r, .int .u8 g, .int .u8 b] w fun e w' => e = .returned (.tuple #[.int .u8 (lumaOf r g b), .int .u8 (cbOf r g b), .int .u8 (crOf r g b)]) ∧ w' = w := by
  have e1 : cbOf r g b = (-11056 * r - 21712 * g + 32768 * b + 8421376) / 65536 := by unfold cbOf; exact (cut8_in _ (by omega) h1).symm
  have a1 := high_clear (-11056 * r - 21712 * g + 32768 * b + 8421376) (by omega) h1
  have e2 : crOf r g b = (32768 * r - 27440 * g - 5328 * b + 8421376) / 65536 := by unfold crOf; exact (cut8_in _ (by omega) h2).symm
  have a2 := high_clear (32768 * r - 27440 * g - 5328 * b + 8421376) (by omega) h2
  rw [e1, e2]
  unfold lumaOf
  clear e1 e2
  go_enter Tryd.func72, Tryd.ntmps72
  go_wp2_with fail
  refine bodyPost_ret (results_tmp3 rfl _ _ _) rfl ⟨rfl, rfl⟩

set_option maxRecDepth 100000 in
set_option maxHeartbeats 1000000 in
theorem rgb_01 (r g b : Int) (w : World) (hr : 0 ≤ r ∧ r ≤ 255) (hg : 0 ≤ g ∧ g ≤ 255) (hb : 0 ≤ b ∧ b ≤ 255) (h1 : (-11056 * r - 21712 * g + 32768 * b + 8421376) < 16777216) (h2 : (32768 * r - 27440 * g - 5328 * b + 8421376) = 16777216) :
    Calls Tryd.prog 72 #[.int .u8 r, .int .u8 g, .int .u8 b] w fun e w' => e = .returned (.tuple #[.int .u8 (lumaOf r g b), .int .u8 (cbOf r g b), .int .u8 (crOf r g b)]) ∧ w' = w := by
  have e1 : cbOf r g b = (-11056 * r - 21712 * g + 32768 * b + 8421376) / 65536 := by unfold cbOf; exact (cut8_in _ (by omega) h1).symm
  have a1 := high_clear (-11056 * r - 21712 * g + 32768 * b + 8421376) (by omega) h1
  have e2 : crOf r g b = 255 := by unfold crOf; rw [h2]; exact cut8_top
  have hs := high_set
  rw [e1, e2]
  unfold lumaOf
  clear e1 e2
  go_enter Tryd.func72, Tryd.ntmps72
  go_wp2_with fail
  refine bodyPost_ret (results_tmp3 rfl _ _ _) rfl ⟨rfl, rfl⟩

set_option maxRecDepth 100000 in
set_option maxHeartbeats 1000000 in
theorem rgb_10 (r g b : Int) (w : World) (hr : 0 ≤ r ∧ r ≤ 255) (hg : 0 ≤ g ∧ g ≤ 255) (hb : 0 ≤ b ∧ b ≤ 255) (h1 : (-11056 * r - 21712 * g + 32768 * b + 8421376) = 16777216) (h2 : (32768 * r - 27440 * g - 5328 * b + 8421376) < 16777216) :
    Calls Tryd.prog 72 #[.int .u8 r, .int .u8 g, .int .u8 b] w fun e w' => e = .returned (.tuple #[.int .u8 (lumaOf r g b), .int .u8 (cbOf r g b), .int .u8 (crOf r g b)]) ∧ w' = w := by
  have e1 : cbOf r g b = 255 := by unfold cbOf; rw [h1]; exact cut8_top
  have e2 : crOf r g b = (32768 * r - 27440 * g - 5328 * b + 8421376) / 65536 := by unfold crOf; exact (cut8_in _ (by omega) h2).symm
  have a2 := high_clear (32768 * r - 27440 * g - 5328 * b + 8421376) (by omega) h2
  have hs := high_set
  rw [e1, e2]
  unfold lumaOf
  clear e1 e2
  go_enter Tryd.func72, Tryd.ntmps72
  go_wp2_with fail
  refine bodyPost_ret (results_tmp3 rfl _ _ _) rfl ⟨rfl, rfl⟩

theorem rgb_any (r g b : Int) (w : World) (hr : 0 ≤ r ∧ r ≤ 255) (hg : 0 ≤ g ∧ g ≤ 255) (hb : 0 ≤ b ∧ b ≤ 255) :
    Calls Tryd.prog 72 #[.int .u8 r, .int .u8 g, .int .u8 b] w fun e w' => e = .returned (.tuple #[.int .u8 (lumaOf r g b), .int .u8 (cbOf r g b), .int .u8 (crOf r g b)]) ∧ w' = w := by
  by_cases h1 : (-11056 * r - 21712 * g + 32768 * b + 8421376) = 16777216
  · by_cases h2 : (32768 * r - 27440 * g - 5328 * b + 8421376) = 16777216
    · exact absurd h2 (by omega)
    · exact rgb_10 r g b w hr hg hb h1 (by omega)
  · by_cases h2 : (32768 * r - 27440 * g - 5328 * b + 8421376) = 16777216
    · exact rgb_01 r g b w hr hg hb (by omega) h2
    · exact rgb_00 r g b w hr hg hb (by omega) (by omega)

theorem byte_ycc (r g b : Int) (hr : 0 ≤ r ∧ r ≤ 255) (hg : 0 ≤ g ∧ g ≤ 255) (hb : 0 ≤ b ∧ b ≤ 255) : (0 ≤ lumaOf r g b ∧ lumaOf r g b ≤ 255) ∧ (0 ≤ cbOf r g b ∧ cbOf r g b ≤ 255) ∧ (0 ≤ crOf r g b ∧ crOf r g b ≤ 255) := by
  unfold lumaOf cbOf crOf cut8
  omega

set_option maxHeartbeats 1000000 in
theorem cut_any (n : Int) (w : World) : Calls Tryd.prog 15 #[.int .i64 n] w fun e w' => e = .returned (.int .u8 (cut8 n)) ∧ w' = w := by
  by_cases c1 : n / 65536 < 0
  · have e : cut8 n = 0 := by unfold cut8; omega
    rw [e]
    clear e
    go_enter Tryd.func15, Tryd.ntmps15
    go_wp2_with fail
    go_ret
    exact ⟨rfl, rfl⟩
  · by_cases c2 : n / 65536 ≤ 255
    · have e : cut8 n = n / 65536 := by unfold cut8; omega
      rw [e]
      clear e
      go_enter Tryd.func15, Tryd.ntmps15
      go_wp2_with fail
      go_ret
      exact ⟨rfl, rfl⟩
    · have e : cut8 n = 255 := by unfold cut8; omega
      rw [e]
      clear e
      go_enter Tryd.func15, Tryd.ntmps15
      go_wp2_with fail
      go_ret
      exact ⟨rfl, rfl⟩

set_option maxRecDepth 100000 in
set_option maxHeartbeats 1000000 in
theorem ycc_any (r g b : Int) (w : World) (hr : 0 ≤ r ∧ r ≤ 255) (hg : 0 ≤ g ∧ g ≤ 255) (hb : 0 ≤ b ∧ b ≤ 255) :
    Calls Tryd.prog 9 #[.int .u8 r, .int .u8 g, .int .u8 b] w fun e w' => e = .returned (.tuple #[.int .u8 (lumaOf r g b), .int .u8 (cbOf r g b), .int .u8 (crOf r g b)]) ∧ w' = w := by
  go_enter Tryd.func9, Tryd.ntmps9
  go_wp2_with fail
  refine (cut_any _ _).mono ?_
  rintro e w1 ⟨rfl, rfl⟩
  go_wp2_with fail
  refine (cut_any _ _).mono ?_
  rintro e w2 ⟨rfl, rfl⟩
  go_wp2_with fail
  refine bodyPost_ret (results_tmp3 rfl _ _ _) rfl ⟨rfl, rfl⟩
end Go.Proofs.YtlibflbpajeeeaaDoor
