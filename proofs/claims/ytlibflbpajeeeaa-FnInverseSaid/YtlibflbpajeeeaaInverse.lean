/- FnInverse: for every list of numbers the law returns true. No condition. -/
import Derived.Test.YtlibflbpajeeeaaInvLaw
import Derived.ProofKit
import Derived.OpenShut
import Derived.Carry
namespace Go.Proofs.Ytlibflbpajeeeaa.fnInverse
open Go.ChangeShapes Go.WideShapes Go.ChangeAt Go.RowKit Go.Sort

theorem own : ownKnob Try.prog.godebug = none := by kernel_rfl
theorem cells41 : Try.prog.cellsOf 41 = 1 := by kernel_rfl
theorem laidOut : laidOutB Try.prog = true := by kernel_rfl

set_option maxRecDepth 100000 in
set_option maxHeartbeats 1000000 in
theorem walk (ad : Option Addr) (len cap : Nat) (w : World) (hl : len ≤ 9223372036854775807) (hnum : NumsAt w ad len) :
    Calls Try.prog 5 #[.slice ad len cap] w fun e w' => e = .returned (.bool true) ∧ Below w.heap.size w w' := by
  by_cases h1 : len ≤ 100
  · exact inverse_main ad len cap w h1 hnum
  · clear hnum
    have hl' : (100 : Int) < (len : Int) := by omega
    by_cases h5 : (2147483647 : Int) < (len : Int)
    · go_enter Try.func5, Try.ntmps5
      go_wp2
      go_ret
      exact ⟨rfl, Below.refl _ _⟩
    · go_enter Try.func5, Try.ntmps5
      go_wp2
      go_ret
      exact ⟨rfl, Below.refl _ _⟩

/-! ### THE ROW's STEP -/
set_option maxRecDepth 100000 in
theorem lifted (os : Os) (started : os.Started) (H : Type) (enc : TypeId × Value → H) :
    ReturnsInHanded {} Try.checked os 5 .any (Rows.fnInverseSpec.pre6 enc Try.prog Try.f5 Rows.fnInverseRow.domain false) (Rows.fnInverseSpec.post enc Try.prog Try.f5 false true false false) := by
  refine returnsInHanded_of_change (C := Try.checked) own started (by kernel_rfl) Try.func5
    (ChangeSpec.witness6 (enc := enc) (C := Try.checked) false ⟨#[], #[.slice none 0 0], []⟩ 8 (by kernel_rfl) (by kernel_rfl) (by kernel_rfl) (by kernel_rfl)) ?_
  intro W base args ds gs before hval0 hW _ _
  have hval : ∀ (j : Nat) t v, Try.f5.params[j]? = some t → args[j]? = some v → Value.okWide Try.prog W .any base t v := hval0
  have hW' := hW
  obtain ⟨p, q, hA0, hV, rfl, hfz, hnd⟩ := hW
  have hA : DataW.TrodAll enc Try.prog W 0 (fun _ => true) true Try.f5.params.toList args.toList ds p := hA0
  rw [Try.params5] at hA hval
  obtain ⟨v0, d0, rfl, rfl, h0⟩ := trodAll_one hA
  obtain ⟨rfl, rfl⟩ := trodVars_none hV
  obtain ⟨ad, len, cap, rfl⟩ := okWide_slice Try.underlying23 (hval 0 23 v0 rfl rfl)
  have h0k := h0
  obtain ⟨fuel, hf⟩ := h0
  clear hA0 hval0
  simp only [List.append_nil] at hW'
  have hlt : ∀ x ∈ p, x.block < W.heap.size := fun x hx => by simpa using hW'.lt x hx
  have hargs : ∀ (W' : World), Below W.heap.size W W' → DataW.Trod enc Try.prog W' 0 (fun b => decide (b < W.heap.size)) true 23 (.slice ad len cap) d0 p :=
    fun W' hn => Below.trod laidOut (by kernel_rfl) (of_decide_eq_true (by kernel_rfl)) h0k hn hlt
  have fin : NumsAt W ad len → len ≤ 9223372036854775807 → Calls Try.checked.prog 5 #[.slice ad len cap] W fun e W' => ∃ v, e = Ending.returned v ∧ Rows.fnInverseSpec.post enc Try.checked.prog Try.f5 false true false false W #[.slice ad len cap] v W' := by
    intro hn hl
    refine (walk ad len cap W hl hn).mono fun e W' ⟨he, hg⟩ => ?_
    subst he
    exact ⟨_, rfl, _, _, _, [], p, [], hW', trodAll_mk1 (shut_bool Try.underlying4 _), trodAll_mk1 (hargs _ hg), rfl, hg.frame _, fun h => by cases h⟩
  rcases open_ints Try.underlying23 Try.underlying41 cells41 hf with ⟨hcs, hx⟩ | ⟨a, len', cap', zs, hcs, _, hl, hm, hz, hx, hcell, hwz⟩
  · simp [Value.cells] at hcs
    obtain ⟨rfl, rfl, rfl⟩ := hcs
    exact fin (fun h => absurd h (by omega)) (by omega)
  · simp [Value.cells] at hcs
    obtain ⟨rfl, rfl, rfl⟩ := hcs
    simp only [Prod.mk.injEq] at hx
    obtain ⟨-, hp⟩ := hx
    simp only [if_true] at hz
    refine fin (fun hpos => ?_) (by unfold maxLen at hm; omega)
    obtain ⟨b, off, spot⟩ := a
    have hspot : spot = none := by simpa [Addr.add] using World.cell?_spot (hcell 0 (by omega))
    subst hspot
    refine ⟨b, off, rfl, ?_, fun j hj => ?_⟩
    · have hc0 := hcell 0 (by omega)
      have := World.block_lt_of_cell? W _ hc0
      simpa [Addr.add] using this
    · have hc := hcell j (by omega)
      have hb := bounds_u32 (hwz (zs.getD j 0) (by rw [List.getD_eq_getElem?_getD, List.getElem?_eq_getElem (by omega)]; exact List.getElem_mem _))
      refine ⟨zs.getD j 0, hb.1, by omega, ?_⟩
      rw [← Addr.add_mid]
      exact hc

theorem over : Rows.fnInverseRow.holds Try.pinned (OpenSpec.ofChange Rows.fnInverseSpec) :=
  OpenClaim.holds_of_wide 5 Try.f5 rfl rfl rfl rfl rfl rfl rfl ⟨rfl, rfl, rfl, rfl, rfl⟩ rfl rfl rfl rfl rfl (by kernel_rfl) Try.func5 (by kernel_rfl)
    (of_decide_eq_true (by kernel_rfl)) (by unfold Func.isWrapper; first | (rw [if_pos (by decide +kernel)]; kernel_rfl) | (rw [if_neg (by decide +kernel)]; exact ⟨rfl, rfl⟩))
    (fun os started H enc _ => lifted os started H enc)

end Go.Proofs.Ytlibflbpajeeeaa.fnInverse
namespace Go.Proofs.Ytlibflbpajeeeaa
/-- THE STATEMENT. -/
theorem fnInverse_holds : Rows.FnInverseSaid := fnInverse.over
#print axioms fnInverse_holds
end Go.Proofs.Ytlibflbpajeeeaa
