/- THE TIED CARD OF FnEncode. -/
import Derived.Test.YtlibflbpajeeeaaDoorFnE
import Derived.Test.YtlibflbpajeeeaaDoorTie
import Derived.Test.YtlibflbpajeeeaaDoorCards
import Derived.SevenTiedAt
namespace Go.Proofs.YtlibflbpajeeeaaDoor
open Go

theorem fnEncodeCard_holds : Rows.FnEncodeCardSaid :=
  Claim7.holds_tied_plain_at .later [] [.data, .data, .data] true (true, "c15d512baca23e8170eb71e4196c280ce515761df91e6044933b21c013fc2835") true
    fnEncode_holds (fun _ h => by cases h) (by kernel_rfl) (fun _ h => by cases h) fnEncode_row_tie rfl ⟨rfl, rfl⟩ (by kernel_rfl) rfl
    (fun f fn hf hfn => by
      obtain rfl : f = 3 := Option.some.inj ((show Tryd.prog.funcNamed "loop.example/pub-g03464/laws.FnEncode" = some 3 by kernel_rfl).symm.trans hf) |>.symm
      obtain rfl : fn = Tryd.f3 := (Option.some.inj (Tryd.func3.symm.trans hfn)).symm
      exact ⟨by kernel_rfl, fun j t ht => by
        rw [Tryd.params3] at ht
        have hm : t ∈ [22, 5, 23, 4] := by simpa using Array.mem_of_getElem? ht
        have hall : ([22, 5, 23, 4].all fun u => !Tryd.prog.wantsStandIn u) = true := by kernel_rfl
        exact (show Tryd.prog.wantsStandIn t = false by simpa using List.all_eq_true.1 hall t hm)⟩)
    (by kernel_rfl)
#print axioms fnEncodeCard_holds
end Go.Proofs.YtlibflbpajeeeaaDoor
