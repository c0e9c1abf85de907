/-
  No cell of these rows narrows 'for every input' (looked for: loops, veiled, ifaces, maps, wideKeys, modest, calm, conditions, laid).
  DERIVED. THE GIVEN ROWS OF THIS SEAT. 3 by the template 'for every input the law returns true; each argument reads behind the call as it read before'; 0 by the template 'total and deterministic' (their statements: YtlibflbpajeeeaaTotals.lean).
  GIVEN WITH THE SEED: the statements are not yours to turn. If you find one false, say at which input.
  Laid BY PROGRAM, IN A SANDBOX (cutbox-rows.mjs): the forced cells as the released guide's own fill.sh prints them over the translation f29e9cef32af683d… (all of the seat's roots in one cut). By AI agents, Wed Nov 11 2026. No macro, syntax, notation, axiom, sorry.
-/
import Derived.Test.YtlibflbpajeeeaaChecked
import GoSem.Claim
import GoSem.ClaimJoined
import GoSem.ClaimMapViews
import Derived.JoinedTies
import Derived.KernelRfl
namespace Go.Proofs.Ytlibflbpajeeeaa
/- THE CELL 'sum', in the pinned program and in every row, IS THE sha256 OF THE DUMP (.gsa) THAT YtlibflbpajeeeaaProg.lean LOADS. Nothing in Lean hashes anything: it is a label: what it is worth is what the hold of that sum in a sandbox is worth. -/
noncomputable def Try.pinned : Pinned := { name := "ytlibflbpajeeeaa", sum := "f29e9cef32af683d329e0aef76081f84f16e9b68c087f6c8156c1a9141dd2fa2", checked := Try.checked }
namespace Rows
def none {H : Type} : Left H := { results := [], args := [] }

/-- 'laws.FnDivide': WHATEVER THE INPUT: true; the input reads as it did. -/
def fnDivideSpec : ChangeSpec := { name := "fnDivide", fn := fun _ => fun
  | [d1, d2, d3] => { results := [.lit (.bool true)], args := [d1, d2, d3] }
  | _ => none }
def fnDivideRow : OpenClaim := { program := "ytlibflbpajeeeaa", sum := "f29e9cef32af683d329e0aef76081f84f16e9b68c087f6c8156c1a9141dd2fa2", func := "loop.example/pub-g03464/laws.FnDivide", spec := "fnDivide", apart := false }
def FnDivideSaid : Prop := fnDivideRow.holds Try.pinned (OpenSpec.ofChange fnDivideSpec)

/-- ITS FALSE NEIGHBOUR: 'it returns false'. Refute it at one input. -/
def fnDivideWrong : ChangeSpec := { name := "fnDivide", fn := fun _ => fun
  | [d1, d2, d3] => { results := [.lit (.bool false)], args := [d1, d2, d3] }
  | _ => none }
def FnDivideWrongFalsely : Prop := fnDivideRow.holds Try.pinned (OpenSpec.ofChange fnDivideWrong)

/-- 'laws.FnFlat': WHATEVER THE INPUT: true; the input reads as it did. -/
def fnFlatSpec : ChangeSpec := { name := "fnFlat", fn := fun _ => fun
  | [d] => { results := [.lit (.bool true)], args := [d] }
  | _ => none }
def fnFlatRow : OpenClaim := { program := "ytlibflbpajeeeaa", sum := "f29e9cef32af683d329e0aef76081f84f16e9b68c087f6c8156c1a9141dd2fa2", func := "loop.example/pub-g03464/laws.FnFlat", spec := "fnFlat", apart := false }
def FnFlatSaid : Prop := fnFlatRow.holds Try.pinned (OpenSpec.ofChange fnFlatSpec)

/-- ITS FALSE NEIGHBOUR: 'it returns false'. Refute it at one input. -/
def fnFlatWrong : ChangeSpec := { name := "fnFlat", fn := fun _ => fun
  | [d] => { results := [.lit (.bool false)], args := [d] }
  | _ => none }
def FnFlatWrongFalsely : Prop := fnFlatRow.holds Try.pinned (OpenSpec.ofChange fnFlatWrong)

/-- 'laws.FnInverse': WHATEVER THE INPUT: true; the input reads as it did. -/
def fnInverseSpec : ChangeSpec := { name := "fnInverse", fn := fun _ => fun
  | [d] => { results := [.lit (.bool true)], args := [d] }
  | _ => none }
def fnInverseRow : OpenClaim := { program := "ytlibflbpajeeeaa", sum := "f29e9cef32af683d329e0aef76081f84f16e9b68c087f6c8156c1a9141dd2fa2", func := "loop.example/pub-g03464/laws.FnInverse", spec := "fnInverse", apart := false }
def FnInverseSaid : Prop := fnInverseRow.holds Try.pinned (OpenSpec.ofChange fnInverseSpec)

/-- ITS FALSE NEIGHBOUR: 'it returns false'. Refute it at one input. -/
def fnInverseWrong : ChangeSpec := { name := "fnInverse", fn := fun _ => fun
  | [d] => { results := [.lit (.bool false)], args := [d] }
  | _ => none }
def FnInverseWrongFalsely : Prop := fnInverseRow.holds Try.pinned (OpenSpec.ofChange fnInverseWrong)

/- THE SECOND FORM. 'bulk': how many values and letters a reading holds, each counted each time it is reached (what is shared counts as often as it is met; a slice's spare places count too). A statement '..UptoSaid' is the law's where the arguments, and the package variables that the reading takes, are together of bulk at most 1048576: NARROWER than '..Said'. Prove '..Said' where nothing that the law and all that it calls make is longer than what came in: it says more and counts as full. Else prove '..UptoSaid'. A law counts once. -/
mutual
def uptoBulk {H : Type} : DataW H → Nat
  | .lit (.string bytes) => bytes.length + 1
  | .lit _ => 1
  | .nil => 1
  | .ptr d => uptoBulk d + 1
  | .slice elems spare => uptoBulkAll elems + uptoBulkAll spare + 1
  | .agg parts => uptoBulkAll parts + 1
  | .iface _ d => uptoBulk d + 1
  | .map entries => uptoBulkEntries entries + 1
  | .held _ => 1
def uptoBulkAll {H : Type} : List (DataW H) → Nat
  | [] => 0
  | d :: r => uptoBulk d + uptoBulkAll r
def uptoBulkEntries {H : Type} : List (Lit × DataW H) → Nat
  | [] => 0
  | x :: r => uptoBulkEntry x + uptoBulkEntries r
def uptoBulkEntry {H : Type} : Lit × DataW H → Nat
  | (.string bytes, d) => bytes.length + uptoBulk d + 1
  | (_, d) => uptoBulk d + 1
 end
def uptoSmall : (H : Type) → List (DataW H) → Bool := fun _ ds => decide (uptoBulkAll ds ≤ 1048576)
def OpenSpec.upto (s : _root_.Go.ChangeSpec) : _root_.Go.OpenSpec := { _root_.Go.OpenSpec.ofChange s with cond := some uptoSmall }

/-- 'laws.FnDivide', WHERE WHAT IT READS IS OF BULK AT MOST 1048576: true; the input reads as it did. -/
def fnDivideUptoRow : OpenClaim := { program := "ytlibflbpajeeeaa", sum := "f29e9cef32af683d329e0aef76081f84f16e9b68c087f6c8156c1a9141dd2fa2", func := "loop.example/pub-g03464/laws.FnDivide", spec := "fnDivide", apart := false, narrowed := true }
def FnDivideUptoSaid : Prop := fnDivideUptoRow.holds Try.pinned (OpenSpec.upto fnDivideSpec)

/-- 'laws.FnFlat', WHERE WHAT IT READS IS OF BULK AT MOST 1048576: true; the input reads as it did. -/
def fnFlatUptoRow : OpenClaim := { program := "ytlibflbpajeeeaa", sum := "f29e9cef32af683d329e0aef76081f84f16e9b68c087f6c8156c1a9141dd2fa2", func := "loop.example/pub-g03464/laws.FnFlat", spec := "fnFlat", apart := false, narrowed := true }
def FnFlatUptoSaid : Prop := fnFlatUptoRow.holds Try.pinned (OpenSpec.upto fnFlatSpec)

/-- 'laws.FnInverse', WHERE WHAT IT READS IS OF BULK AT MOST 1048576: true; the input reads as it did. -/
def fnInverseUptoRow : OpenClaim := { program := "ytlibflbpajeeeaa", sum := "f29e9cef32af683d329e0aef76081f84f16e9b68c087f6c8156c1a9141dd2fa2", func := "loop.example/pub-g03464/laws.FnInverse", spec := "fnInverse", apart := false, narrowed := true }
def FnInverseUptoSaid : Prop := fnInverseUptoRow.holds Try.pinned (OpenSpec.upto fnInverseSpec)

end Rows
end Go.Proofs.Ytlibflbpajeeeaa
