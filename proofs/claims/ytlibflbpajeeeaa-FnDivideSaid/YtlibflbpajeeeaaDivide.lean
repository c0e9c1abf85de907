/- FnDivide: for every int32, uint16 and list of numbers the law returns true. No condition. -/
import Derived.Test.YtlibflbpajeeeaaDivLaw
import Derived.ProofKit
import Derived.OpenShut
import Derived.Carry
namespace Go.Proofs.Ytlibflbpajeeeaa.fnDivide
open Go.ChangeShapes Go.WideShapes Go.ChangeAt Go.RowKit Go.Sort

theorem own : ownKnob Try.prog.godebug = none := by kernel_rfl
theorem cells41 : Try.prog.cellsOf 41 = 1 := by kernel_rfl
theorem laidOut : laidOutB Try.prog = true := by kernel_rfl

def NumsAt (w : World) (ad : Option Addr) (len : Nat) : Prop :=
  0 < len → ∃ b off, ad = some ⟨b, off, none⟩ ∧ b < w.heap.size ∧ ∀ j, j < len → ∃ v : Int, 0 ≤ v ∧ v < 4294967296 ∧ w.cell? ⟨b, off + j, none⟩ = some (.int .u32 v)

set_option maxRecDepth 100000 in
set_option maxHeartbeats 1000000 in
theorem walk (a b : Int) (ad : Option Addr) (len cap : Nat) (w : World) (hb0 : 0 ≤ b) (hb1 : b ≤ 65535) (hl : len ≤ 9223372036854775807) (hnum : NumsAt w ad len) :
    Calls Try.prog 3 #[.int .i32 a, .int .u16 b, .slice ad len cap] w fun e w' => e = .returned (.bool true) ∧ Below w.heap.size w w' := by
  by_cases h1 : len ≤ 100
  · by_cases h2 : b = 0
    · subst h2
      clear hnum
      have hl' : (len : Int) ≤ 100 := by omega
      go_enter Try.func3, Try.ntmps3
      go_wp2
      go_ret
      exact ⟨rfl, Below.refl _ _⟩
    · have hbz : (b == 0) = false := by simp; omega
      have hl' : (len : Int) ≤ 100 := by omega
      by_cases h3 : 1048576 < a
      · clear hnum h2
        go_enter Try.func3, Try.ntmps3
        go_wp2
        go_ret
        exact ⟨rfl, Below.refl _ _⟩
      · by_cases h4 : a < -1048576
        · clear hnum h2
          go_enter Try.func3, Try.ntmps3
          go_wp2
          go_ret
          exact ⟨rfl, Below.refl _ _⟩
        · exact divide_main a b ad len cap w (by omega) (by omega) (by omega) hb1 h1 hnum
  · clear hnum
    have hl' : (100 : Int) < (len : Int) := by omega
    by_cases h5 : (2147483647 : Int) < (len : Int)
    · go_enter Try.func3, Try.ntmps3
      go_wp2
      go_ret
      exact ⟨rfl, Below.refl _ _⟩
    · go_enter Try.func3, Try.ntmps3
      go_wp2
      go_ret
      exact ⟨rfl, Below.refl _ _⟩

/-! ### THE ROW's STEP -/
set_option maxRecDepth 100000 in
theorem lifted (os : Os) (started : os.Started) (H : Type) (enc : TypeId × Value → H) :
    ReturnsInHanded {} Try.checked os 3 .any (Rows.fnDivideSpec.pre6 enc Try.prog Try.f3 Rows.fnDivideRow.domain false) (Rows.fnDivideSpec.post enc Try.prog Try.f3 false true false false) := by
  refine returnsInHanded_of_change (C := Try.checked) own started (by kernel_rfl) Try.func3
    (ChangeSpec.witness6 (enc := enc) (C := Try.checked) false ⟨#[], #[.int .i32 0, .int .u16 0, .slice none 0 0], []⟩ 8 (by kernel_rfl) (by kernel_rfl) (by kernel_rfl) (by kernel_rfl)) ?_
  intro W base args ds gs before hval0 hW _ _
  have hval : ∀ (j : Nat) t v, Try.f3.params[j]? = some t → args[j]? = some v → Value.okWide Try.prog W .any base t v := hval0
  have hW' := hW
  obtain ⟨p, q, hA0, hV, rfl, hfz, hnd⟩ := hW
  have hA : DataW.TrodAll enc Try.prog W 0 (fun _ => true) true Try.f3.params.toList args.toList ds p := hA0
  rw [Try.params3] at hA hval
  obtain ⟨v0, v1, v2, d0, d1, d2, p0, p1, p2, rfl, rfl, rfl, h0, h1, h2⟩ := trodAll_three hA
  obtain ⟨rfl, rfl⟩ := trodVars_none hV
  obtain ⟨a0, rfl, rfl, rfl, w0⟩ := open_int Try.underlying21 (hval 0 21 v0 rfl rfl) h0
  obtain ⟨b0, rfl, rfl, rfl, w1⟩ := open_int Try.underlying22 (hval 1 22 v1 rfl rfl) h1
  obtain ⟨ad, len, cap, rfl⟩ := okWide_slice Try.underlying23 (hval 2 23 v2 rfl rfl)
  have h2k := h2
  obtain ⟨fuel, hf⟩ := h2
  clear hA0 hval0
  simp only [List.append_nil, List.nil_append] at hW'
  have hlt : ∀ x ∈ p2, x.block < W.heap.size := fun x hx => by simpa using hW'.lt x hx
  have hargs : ∀ (W' : World), Below W.heap.size W W' → DataW.Trod enc Try.prog W' 0 (fun b => decide (b < W.heap.size)) true 23 (.slice ad len cap) d2 p2 :=
    fun W' hn => Below.trod laidOut (by kernel_rfl) (of_decide_eq_true (by kernel_rfl)) h2k hn hlt
  have fin : NumsAt W ad len → len ≤ 9223372036854775807 → Calls Try.checked.prog 3 #[.int .i32 a0, .int .u16 b0, .slice ad len cap] W fun e W' => ∃ v, e = Ending.returned v ∧ Rows.fnDivideSpec.post enc Try.checked.prog Try.f3 false true false false W #[.int .i32 a0, .int .u16 b0, .slice ad len cap] v W' := by
    intro hn hl
    have hb := bounds_u16 w1
    refine (walk a0 b0 ad len cap W hb.1 hb.2 hl hn).mono fun e W' ⟨he, hg⟩ => ?_
    subst he
    exact ⟨_, rfl, _, _, _, [], [] ++ ([] ++ p2), [], hW', trodAll_mk1 (shut_bool Try.underlying4 _), trodAll_mk3 (shut_int Try.underlying21 w0) (shut_int Try.underlying22 w1) (hargs _ hg), rfl, hg.frame _, fun h => by cases h⟩
  rcases open_ints Try.underlying23 Try.underlying41 cells41 hf with ⟨hcs, hx⟩ | ⟨a, len', cap', zs, hcs, _, hl, hm, hz, hx, hcell, hwz⟩
  · simp [Value.cells] at hcs
    obtain ⟨rfl, rfl, rfl⟩ := hcs
    exact fin (fun h => absurd h (by omega)) (by omega)
  · simp [Value.cells] at hcs
    obtain ⟨rfl, rfl, rfl⟩ := hcs
    simp only [Prod.mk.injEq] at hx
    obtain ⟨-, hp⟩ := hx
    simp only [if_true] at hz
    refine fin (fun hpos => ?_) (by unfold maxLen at hm; omega)
    obtain ⟨b, off, spot⟩ := a
    have hspot : spot = none := by simpa [Addr.add] using World.cell?_spot (hcell 0 (by omega))
    subst hspot
    refine ⟨b, off, rfl, ?_, fun j hj => ?_⟩
    · have hc0 := hcell 0 (by omega)
      have := World.block_lt_of_cell? W _ hc0
      simpa [Addr.add] using this
    · have hc := hcell j (by omega)
      have hb := bounds_u32 (hwz (zs.getD j 0) (by rw [List.getD_eq_getElem?_getD, List.getElem?_eq_getElem (by omega)]; exact List.getElem_mem _))
      refine ⟨zs.getD j 0, hb.1, by omega, ?_⟩
      rw [← Addr.add_mid]
      exact hc

theorem over : Rows.fnDivideRow.holds Try.pinned (OpenSpec.ofChange Rows.fnDivideSpec) :=
  OpenClaim.holds_of_wide 3 Try.f3 rfl rfl rfl rfl rfl rfl rfl ⟨rfl, rfl, rfl, rfl, rfl⟩ rfl rfl rfl rfl rfl (by kernel_rfl) Try.func3 (by kernel_rfl)
    (of_decide_eq_true (by kernel_rfl)) (by unfold Func.isWrapper; first | (rw [if_pos (by decide +kernel)]; kernel_rfl) | (rw [if_neg (by decide +kernel)]; exact ⟨rfl, rfl⟩))
    (fun os started H enc _ => lifted os started H enc)

end Go.Proofs.Ytlibflbpajeeeaa.fnDivide
namespace Go.Proofs.Ytlibflbpajeeeaa
/-- THE STATEMENT. -/
theorem fnDivide_holds : Rows.FnDivideSaid := fnDivide.over
#print axioms fnDivide_holds
end Go.Proofs.Ytlibflbpajeeeaa
