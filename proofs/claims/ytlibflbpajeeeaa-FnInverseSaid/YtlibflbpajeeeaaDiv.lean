/- The contracts of the two roundings, jpeg.div and spec.Rounded: the nearest whole number, halves away from nought. Conditions: the divisor from 1 on, both far from the kind's ends. -/
import Derived.Test.YtlibflbpajeeeaaRows
import Derived.WalkKit
import Derived.Lib.Hide
namespace Go.Proofs.Ytlibflbpajeeeaa
open Go.RowKit

def rnd (a b : Int) : Int := if a < 0 then -((-a + b / 2) / b) else (a + b / 2) / b

theorem quot_bounds (x b : Int) (hx : 0 ≤ x) (hb : 1 ≤ b) : 0 ≤ x / b ∧ x / b ≤ x := by
  refine ⟨Int.ediv_nonneg hx (by omega), ?_⟩
  have h := Int.ediv_le_self b hx
  exact h

theorem rounded_any (a b : Int) (w : World) (ha0 : -1000000000000 ≤ a) (ha1 : a ≤ 1000000000000) (hb0 : 1 ≤ b) (hb1 : b ≤ 1000000000000) :
    Calls Try.prog 7 #[.int .i64 a, .int .i64 b] w fun e w' => e = .returned (.int .i64 (rnd a b)) ∧ w = w' := by
  have hbz : (b == 0) = false := by simp; omega
  by_cases h : a < 0
  · have hq := quot_bounds (-a + b / 2) b (by omega) hb0
    obtain ⟨hq0, hq1⟩ := hq
    have hr : rnd a b = -((-a + b / 2) / b) := by unfold rnd; rw [if_pos h]
    have HR := Lib.hid hr
    clear hr
    go_enter Try.func7, Try.ntmps7
    go_wp2
    go_ret
    exact ⟨by rw [HR.out]; rfl, rfl⟩
  · have hq := quot_bounds (a + b / 2) b (by omega) hb0
    obtain ⟨hq0, hq1⟩ := hq
    have hr : rnd a b = (a + b / 2) / b := by unfold rnd; rw [if_neg h]
    have HR := Lib.hid hr
    clear hr
    go_enter Try.func7, Try.ntmps7
    go_wp2
    go_ret
    exact ⟨by rw [HR.out]; rfl, rfl⟩

theorem div_any (a b : Int) (w : World) (ha0 : -1000000000 ≤ a) (ha1 : a ≤ 1000000000) (hb0 : 1 ≤ b) (hb1 : b ≤ 1000000000) :
    Calls Try.prog 19 #[.int .i32 a, .int .i32 b] w fun e w' => e = .returned (.int .i32 (rnd a b)) ∧ w = w' := by
  have hbz : (b == 0) = false := by simp; omega
  by_cases h : a < 0
  · have hq := quot_bounds (-a + b / 2) b (by omega) hb0
    obtain ⟨hq0, hq1⟩ := hq
    have hr : rnd a b = -((-a + b / 2) / b) := by unfold rnd; rw [if_pos h]
    have HR := Lib.hid hr
    clear hr
    go_enter Try.func19, Try.ntmps19
    go_wp2
    go_ret
    exact ⟨by rw [HR.out]; rfl, rfl⟩
  · have hq := quot_bounds (a + b / 2) b (by omega) hb0
    obtain ⟨hq0, hq1⟩ := hq
    have hr : rnd a b = (a + b / 2) / b := by unfold rnd; rw [if_neg h]
    have HR := Lib.hid hr
    clear hr
    go_enter Try.func19, Try.ntmps19
    go_wp2
    go_ret
    exact ⟨by rw [HR.out]; rfl, rfl⟩


theorem zzdiv_any (a b : Int) (w : World) (ha0 : -1000000000 ≤ a) (ha1 : a ≤ 1000000000) (hb0 : 1 ≤ b) (hb1 : b ≤ 1000000000) :
    Calls Try.prog 13 #[.int .i32 a, .int .i32 b] w fun e w' => e = .returned (.int .i32 (rnd a b)) ∧ w = w' := by
  go_enter Try.func13, Try.ntmps13
  go_wp2_with fail
  refine (div_any a b _ ha0 ha1 hb0 hb1).mono ?_
  rintro e w' ⟨rfl, rfl⟩
  go_wp2_with fail
  go_ret
  exact ⟨rfl, rfl⟩

theorem divide_any (a b : Int) (w : World) (ha0 : -1048576 ≤ a) (ha1 : a ≤ 1048576) (hb0 : 1 ≤ b) (hb1 : b ≤ 1048576) :
    Calls Try.prog 6 #[.int .i32 a, .int .i32 b] w fun e w' => e = .returned (.int .i32 (rnd a b)) ∧ w = w' := by
  go_enter Try.func6, Try.ntmps6
  go_wp2_with fail
  refine (zzdiv_any a b _ (by omega) (by omega) hb0 (by omega)).mono ?_
  rintro e w' ⟨rfl, rfl⟩
  go_wp2_with fail
  go_ret
  exact ⟨rfl, rfl⟩

end Go.Proofs.Ytlibflbpajeeeaa
