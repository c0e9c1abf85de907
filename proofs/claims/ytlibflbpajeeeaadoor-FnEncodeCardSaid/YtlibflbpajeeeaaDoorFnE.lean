/- FnEncode: for every list of numbers, kind and quality the law returns true. No condition. -/
import Derived.Test.YtlibflbpajeeeaaDoorJLawG
import Derived.Test.YtlibflbpajeeeaaDoorLaidOf
import Derived.ProofKit
import Derived.OpenShut
import Derived.Carry
import Derived.OpenVars
import Derived.Lay
import Derived.Handy
namespace Go.Proofs.YtlibflbpajeeeaaDoor.fnEncode
open Go.ChangeShapes Go.WideShapes Go.ChangeAt Go.RowKit

theorem own : ownKnob Tryd.prog.godebug = none := by kernel_rfl
theorem cells43 : Tryd.prog.cellsOf 43 = 1 := by kernel_rfl
theorem laidOut : laidOutB Tryd.prog = true := by kernel_rfl

set_option maxRecDepth 100000 in
set_option maxHeartbeats 1000000 in
theorem walk (ad : Option Addr) (len cap : Nat) (kind q0 : Int) (told : Bool) (w : World) (hl : len ≤ 9223372036854775807) (hnum : NumsAt w ad len) (hL : Laid w) (hk : 0 ≤ kind ∧ kind ≤ 255) (hq : -32768 ≤ q0 ∧ q0 ≤ 32767) :
    Calls Tryd.prog 3 #[.slice ad len cap, .int .u8 kind, .int .i16 q0, .bool told] w fun e w' => e = .returned (.bool true) ∧ Below w.heap.size w w' := by
  by_cases h1 : len ≤ 100
  · have h3 : kind % 3 = 0 ∨ kind % 3 = 1 ∨ kind % 3 = 2 := by omega
    rcases h3 with h | h | h
    · exact law_gray w ad len cap kind q0 told h1 hnum hL hk h hq
    · exact law_ycc w ad len cap kind q0 told h1 hnum hL hk h hq
    · exact law_rgb w ad len cap kind q0 told h1 hnum hL hk h hq
  · clear hnum hL hk hq
    have hl' : (100 : Int) < (len : Int) := by omega
    by_cases h5 : (2147483647 : Int) < (len : Int)
    · go_enter Tryd.func3, Tryd.ntmps3
      go_wp2
      go_ret
      exact ⟨rfl, Below.refl _ _⟩
    · go_enter Tryd.func3, Tryd.ntmps3
      go_wp2
      go_ret
      exact ⟨rfl, Below.refl _ _⟩

/-! ### THE ROW's STEP -/
section
variable {H : Type} {enc : TypeId × Value → H} {P : Program} {w : World} {spare : Nat → Bool}
theorem vars3 {n0 n1 n2 : String} {gs : List (DataW H)} {ps : List MemPlace} (h : DataW.TrodVars enc P w spare [n0, n1, n2] gs ps) : ∃ e0 e1 e2, gs = [e0, e1, e2] := by
  cases gs with
  | nil => simp [DataW.TrodVars] at h
  | cons d ds =>
    obtain ⟨g, t, cs, f, p, q, _, _, _, _, hs, _⟩ := h
    obtain ⟨_, _, _, _, d1, _, _, _, _, _, d2, _, rfl, _⟩ := trodVars_two hs
    exact ⟨_, _, _, rfl⟩
end

set_option maxRecDepth 100000 in
theorem lifted (os : Os) (started : os.Started) (H : Type) (enc : TypeId × Value → H) :
    ReturnsInHanded {} Tryd.checked os 3 .any (fun w args => (Rows.fnEncodeSpec.pre enc Tryd.prog Tryd.f3 [] false w args ∧ laidMetH Tryd.prog Rows.fnEncodeRow.laid w) ∧ sizedMet enc Tryd.prog Tryd.f3 (OpenSpec.ofChange Rows.fnEncodeSpec) false w args)
      (Rows.fnEncodeSpec.post enc Tryd.prog Tryd.f3 false true false false) := by
  refine returnsInHanded_of_change_and (C := Tryd.checked) (X := fun w _ => laidMetH Tryd.prog Rows.fnEncodeRow.laid w) (fun _ _ _ hh h => h.of_heap hh) own started (by kernel_rfl) Tryd.func3
    (ChangeSpec.witness_shaped (enc := enc) (C := Tryd.checked) (os := os) (X := fun w _ => laidMetH Tryd.prog Rows.fnEncodeRow.laid w) false (World.laidAll Tryd.prog os Rows.fnEncodeRow.laid) #[.slice none 0 0, .int .u8 0, .int .i16 0, .bool false] 8 (World.laidAll_os _ _ _)
      (World.shaped_of_ZipB (by kernel_rfl) (by kernel_rfl)) (by kernel_rfl) (by kernel_rfl) (by kernel_rfl)
      (by rw [MakeChecks.laidMetH_plain _ _ _ (by kernel_rfl)]; exact laidMet_laidAll _ (by kernel_rfl) (by kernel_rfl))) ?_
  intro W base args ds gs before hval0 hW _ _ hL _
  have hval : ∀ (j : Nat) t v, Tryd.f3.params[j]? = some t → args[j]? = some v → Value.okWide Tryd.prog W .any base t v := hval0
  have hW' := hW
  obtain ⟨p, q, hA0, hV, rfl, hfz, hnd⟩ := hW
  have hA : DataW.TrodAll enc Tryd.prog W 0 (fun _ => true) true Tryd.f3.params.toList args.toList ds p := hA0
  rw [Tryd.params3] at hA hval
  obtain ⟨v0, v1, v2, v3, d0, d1, d2, d3, p0, p1, p2, p3, rfl, rfl, rfl, h0, h1, h2, h3⟩ := trodAll_four hA
  obtain ⟨e0, e1, e2, rfl⟩ := vars3 hV
  obtain ⟨ad, len, cap, rfl⟩ := okWide_slice Tryd.underlying22 (hval 0 22 v0 rfl rfl)
  obtain ⟨kind, rfl, rfl, rfl, w1⟩ := open_int Tryd.underlying5 (hval 1 5 v1 rfl rfl) h1
  obtain ⟨q0, rfl, rfl, rfl, w2⟩ := open_int Tryd.underlying23 (hval 2 23 v2 rfl rfl) h2
  obtain ⟨told, rfl, rfl, rfl⟩ := open_bool Tryd.underlying4 (hval 3 4 v3 rfl rfl) h3
  have h0k := h0
  obtain ⟨fuel, hf⟩ := h0
  clear hA0 hval0
  have hlaid := laid_of hL
  have hvars : ∀ (W' : World), Below W.heap.size W W' → DataW.TrodVars enc Tryd.prog W' (fun b => decide (b < W.heap.size)) Rows.fnEncodeSpec.vars [e0, e1, e2] q :=
    fun W' hn => Below.trodVars laidOut hn (by kernel_rfl) hV
  simp only [List.append_nil] at hW'
  have hlt : ∀ x ∈ p0, x.block < W.heap.size := fun x hx => hW'.lt x (by simp [hx])
  have hargs : ∀ (W' : World), Below W.heap.size W W' → DataW.Trod enc Tryd.prog W' 0 (fun b => decide (b < W.heap.size)) true 22 (.slice ad len cap) d0 p0 :=
    fun W' hn => Below.trod laidOut (by kernel_rfl) (of_decide_eq_true (by kernel_rfl)) h0k hn hlt
  have fin : NumsAt W ad len → len ≤ 9223372036854775807 → Calls Tryd.checked.prog 3 #[.slice ad len cap, .int .u8 kind, .int .i16 q0, .bool told] W fun e W' => ∃ v, e = Ending.returned v ∧ Rows.fnEncodeSpec.post enc Tryd.checked.prog Tryd.f3 false true false false W #[.slice ad len cap, .int .u8 kind, .int .i16 q0, .bool told] v W' := by
    intro hn hl
    refine (walk ad len cap kind q0 told W hl hn hlaid (bounds_u8 w1) (bounds_i16 w2)).mono fun e W' ⟨he, hg⟩ => ?_
    subst he
    exact ⟨_, rfl, _, _, _, [], p0 ++ ([] ++ ([] ++ [])), q, hW', trodAll_mk1 (shut_bool Tryd.underlying4 _), trodAll_mk4 (hargs _ hg) (shut_int Tryd.underlying5 w1) (shut_int Tryd.underlying23 w2) (shut_bool Tryd.underlying4 _), hvars _ hg, hg.frame _, fun h => by cases h⟩
  rcases open_ints Tryd.underlying22 Tryd.underlying43 cells43 hf with ⟨hcs, hx⟩ | ⟨a, len', cap', zs, hcs, _, hl, hm, hz, hx, hcell, hwz⟩
  · simp [Value.cells] at hcs
    obtain ⟨rfl, rfl, rfl⟩ := hcs
    exact fin (fun h => absurd h (by omega)) (by omega)
  · simp [Value.cells] at hcs
    obtain ⟨rfl, rfl, rfl⟩ := hcs
    simp only [Prod.mk.injEq] at hx
    obtain ⟨-, hp⟩ := hx
    simp only [if_true] at hz
    refine fin (fun hpos => ?_) (by unfold maxLen at hm; omega)
    obtain ⟨b, off, spot⟩ := a
    have hspot : spot = none := by simpa [Addr.add] using World.cell?_spot (hcell 0 (by omega))
    subst hspot
    refine ⟨b, off, rfl, ?_, fun j hj => ?_⟩
    · have hc0 := hcell 0 (by omega)
      have := World.block_lt_of_cell? W _ hc0
      simpa [Addr.add] using this
    · have hc := hcell j (by omega)
      have hb := bounds_u32 (hwz (zs.getD j 0) (by rw [List.getD_eq_getElem?_getD, List.getElem?_eq_getElem (by omega)]; exact List.getElem_mem _))
      refine ⟨zs.getD j 0, hb.1, by omega, ?_⟩
      rw [← Addr.add_mid]
      exact hc

theorem over : Rows.fnEncodeRow.holds Tryd.pinned (OpenSpec.ofChange Rows.fnEncodeSpec) :=
  OpenClaim.holds_of_wide 3 Tryd.f3 rfl rfl rfl rfl rfl rfl rfl ⟨rfl, rfl, rfl, rfl, rfl⟩ rfl rfl rfl rfl rfl (by kernel_rfl) Tryd.func3 (by kernel_rfl)
    (of_decide_eq_true (by kernel_rfl)) (by unfold Func.isWrapper; first | (rw [if_pos (by decide +kernel)]; kernel_rfl) | (rw [if_neg (by decide +kernel)]; exact ⟨rfl, rfl⟩))
    (fun os started H enc _ => lifted os started H enc)

end Go.Proofs.YtlibflbpajeeeaaDoor.fnEncode
namespace Go.Proofs.YtlibflbpajeeeaaDoor
/-- THE ROW. -/
theorem fnEncode_holds : Rows.FnEncodeSaid := fnEncode.over
#print axioms fnEncode_holds
end Go.Proofs.YtlibflbpajeeeaaDoor
