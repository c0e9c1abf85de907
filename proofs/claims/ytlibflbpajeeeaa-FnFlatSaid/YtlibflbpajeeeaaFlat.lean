/- FnFlat: for every int16 the law returns true. No condition: outside -2000 .. 2000 it returns true at once, inside the block is walked through impl.Inverse. -/
import Derived.Test.YtlibflbpajeeeaaRows
import Derived.Test.YtlibflbpajeeeaaFlatPl
import Derived.Test.YtlibflbpajeeeaaInv
import Derived.WalkKit
import Derived.ProofKit
import Derived.OpenShut
import Derived.ShutString
namespace Go.Proofs.Ytlibflbpajeeeaa.fnFlat
open Go.ChangeShapes Go.WideShapes Go.ChangeAt Go.RowKit Go.Sort

theorem own : ownKnob Try.prog.godebug = none := by kernel_rfl

theorem flat_bounds (n : Int) (h0 : -2000 ≤ n) (h1 : n ≤ 2000) (j : Nat) (hj : j < 64) : (-1048576 : Int) ≤ (flatD n)[j]! ∧ (flatD n)[j]! ≤ (1048576 : Int) := by
  by_cases e : j = 0
  · subst e
    have : (flatD n)[0]! = n := rfl
    rw [this]; omega
  · have : (flatD n)[j]! = 0 := by
      obtain ⟨i, rfl⟩ : ∃ i, j = i + 1 := ⟨j - 1, by omega⟩
      have : ∀ i, i < 63 → (flatD n)[i + 1]! = 0 := by
        intro i hi
        have hs : (flatD n)[i + 1]! = (flatD 0)[i + 1]! := by
          rw [getElem!_pos (flatD n) (i + 1) (by show i + 1 < 64; omega), getElem!_pos (flatD 0) (i + 1) (by show i + 1 < 64; omega)]
          rfl
        rw [hs]
        have : ∀ k, k < 64 → (flatD 0)[k]! = 0 := by decide +kernel
        exact this _ (by omega)
      exact this i (by omega)
    rw [this]; omega

theorem flat_map (n : Int) : (flatD n).map i32v = #[.int .i32 n, .int .i32 0, .int .i32 0, .int .i32 0, .int .i32 0, .int .i32 0, .int .i32 0, .int .i32 0, .int .i32 0, .int .i32 0, .int .i32 0, .int .i32 0, .int .i32 0, .int .i32 0, .int .i32 0, .int .i32 0, .int .i32 0, .int .i32 0, .int .i32 0, .int .i32 0, .int .i32 0, .int .i32 0, .int .i32 0, .int .i32 0, .int .i32 0, .int .i32 0, .int .i32 0, .int .i32 0, .int .i32 0, .int .i32 0, .int .i32 0, .int .i32 0, .int .i32 0, .int .i32 0, .int .i32 0, .int .i32 0, .int .i32 0, .int .i32 0, .int .i32 0, .int .i32 0, .int .i32 0, .int .i32 0, .int .i32 0, .int .i32 0, .int .i32 0, .int .i32 0, .int .i32 0, .int .i32 0, .int .i32 0, .int .i32 0, .int .i32 0, .int .i32 0, .int .i32 0, .int .i32 0, .int .i32 0, .int .i32 0, .int .i32 0, .int .i32 0, .int .i32 0, .int .i32 0, .int .i32 0, .int .i32 0, .int .i32 0, .int .i32 0] := by
  simp [flatD, i32v]

set_option maxRecDepth 100000 in
set_option maxHeartbeats 1000000 in
theorem walk_in (n : Int) (w : World) (h0 : -2000 ≤ n) (h1 : n ≤ 2000) :
    Calls Try.prog 4 #[.int .i16 n] w fun e w' => e = .returned (.bool true) ∧ Below w.heap.size w w' := by
  have hinv := inverse_any (flatD n) w rfl (flat_bounds n h0 h1)
  rw [flat_map] at hinv
  obtain ⟨c', hc'⟩ : ∃ c', c' = (icolsA (irowsA (flatD n))).map i32v := ⟨_, rfl⟩
  rw [← hc'] at hinv
  have hs' : (icolsA (irowsA (flatD n))).size = 64 := by unfold icolsA irowsA; rw [size_steps, size_steps]; rfl
  have hcell : ∀ k, k < 64 → c'[k]? = some (.int .i32 ((n + 4) / 8)) := by
    intro k hk
    rw [hc', getElem?_map_i32v _ k (by omega), flat_law n h0 h1 k hk]
  have HINV := Lib.hid hinv
  have HC := Lib.hid hcell
  clear hinv hc' hs' hcell
  go_enter Try.func4, Try.ntmps4
  go_wp2_with fail
  refine HINV.out.mono ?_
  rintro e w1 ⟨rfl, hb⟩
  have HB := Lib.hid hb
  clear hb
  go_wp2_with fail
  go_loop [15] (fun i => ∃ k : Nat, k ≤ 64 ∧ i = .int .i64 k) (fun i => 64 - (intOf i).toNat)
  case atStart => exact ⟨0, Nat.zero_le _, rfl⟩
  case round =>
    obtain ⟨k, hk, rfl⟩ := hrel
    by_cases hlt : k < 64
    · have hix := index29 c' k hlt _ (HC.out k hlt)
      go_wp2
      go_round
      case rel => exact ⟨k + 1, by omega, by go_num⟩
      case measure => simp [intOf]; omega
    · have hk8 : k = 64 := by omega
      subst hk8
      go_wp2
      go_ret
      exact ⟨rfl, HB.out⟩

set_option maxRecDepth 100000 in
set_option maxHeartbeats 1000000 in
theorem walk (n : Int) (w : World) :
    Calls Try.prog 4 #[.int .i16 n] w fun e w' => e = .returned (.bool true) ∧ Below w.heap.size w w' := by
  by_cases h0 : n < -2000
  · go_enter Try.func4, Try.ntmps4
    go_wp2
    go_ret
    exact ⟨rfl, Below.refl _ _⟩
  · by_cases h1 : 2000 < n
    · go_enter Try.func4, Try.ntmps4
      go_wp2
      go_ret
      exact ⟨rfl, Below.refl _ _⟩
    · exact walk_in n w (by omega) (by omega)

/-! ### THE ROW's STEP -/
set_option maxRecDepth 100000 in
theorem lifted (os : Os) (started : os.Started) (H : Type) (enc : TypeId × Value → H) :
    ReturnsInHanded {} Try.checked os 4 .any (Rows.fnFlatSpec.pre6 enc Try.prog Try.f4 Rows.fnFlatRow.domain false) (Rows.fnFlatSpec.post enc Try.prog Try.f4 false true false false) := by
  refine returnsInHanded_of_change (C := Try.checked) own started (by kernel_rfl) Try.func4
    (ChangeSpec.witness6 (enc := enc) (C := Try.checked) false ⟨#[], #[.int .i16 0], []⟩ 8 (by kernel_rfl) (by kernel_rfl) (by kernel_rfl) (by kernel_rfl)) ?_
  intro W base args ds gs before hval0 hW _ _
  have hval : ∀ (j : Nat) t v, Try.f4.params[j]? = some t → args[j]? = some v → Value.okWide Try.prog W .any base t v := hval0
  have hW' := hW
  obtain ⟨p, q, hA0, hV, rfl, hfz, hnd⟩ := hW
  have hA : DataW.TrodAll enc Try.prog W 0 (fun _ => true) true Try.f4.params.toList args.toList ds p := hA0
  rw [Try.params4] at hA hval
  obtain ⟨v0, vs0, d0, ds0, p0, q0, hargs, rfl, rfl, h0, r0⟩ := trodAll_cons hA
  obtain ⟨rfl, rfl, rfl⟩ := trodAll_nil r0
  obtain rfl : args = #[v0] := by cases args; simp_all
  obtain ⟨rfl, rfl⟩ := trodVars_none hV
  obtain ⟨a0, rfl, rfl, rfl, w0⟩ := open_int Try.underlying35 (hval 0 35 v0 rfl rfl) h0
  clear hA0 hval0
  simp only [List.append_nil] at hW'
  refine (walk a0 W).mono fun e W' ⟨he, hg⟩ => ?_
  subst he
  exact ⟨_, rfl, _, _, _, [], [], [], hW', trodAll_cons_mk (shut_bool Try.underlying4 _) trodAll_mk0, trodAll_cons_mk (shut_int Try.underlying35 w0) trodAll_mk0, rfl, hg.frame _, fun h => by cases h⟩

theorem over : Rows.fnFlatRow.holds Try.pinned (OpenSpec.ofChange Rows.fnFlatSpec) :=
  OpenClaim.holds_of_wide 4 Try.f4 rfl rfl rfl rfl rfl rfl rfl ⟨rfl, rfl, rfl, rfl, rfl⟩ rfl rfl rfl rfl rfl (by kernel_rfl) Try.func4 (by kernel_rfl)
    (of_decide_eq_true (by kernel_rfl)) (by unfold Func.isWrapper; first | (rw [if_pos (by decide +kernel)]; kernel_rfl) | (rw [if_neg (by decide +kernel)]; exact ⟨rfl, rfl⟩))
    (fun os started H enc _ => lifted os started H enc)

end Go.Proofs.Ytlibflbpajeeeaa.fnFlat
namespace Go.Proofs.Ytlibflbpajeeeaa
/-- THE STATEMENT. -/
theorem fnFlat_holds : Rows.FnFlatSaid := fnFlat.over
#print axioms fnFlat_holds
end Go.Proofs.Ytlibflbpajeeeaa
