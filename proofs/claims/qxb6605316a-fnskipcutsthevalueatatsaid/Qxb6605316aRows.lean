/-
  No cell of these rows narrows 'for every input' (looked for: loops, veiled, ifaces, maps, wideKeys, modest, calm, conditions, laid).
  DERIVED. THE GIVEN ROWS OF THIS SEAT. 4 by the template 'for every input the law returns true; each argument reads behind the call as it read before'; 0 by the template 'total and deterministic' (their statements: Qxb6605316aTotals.lean).
  GIVEN WITH THE SEED: the statements are not yours to turn. If you find one false, say at which input.
  Laid BY PROGRAM, IN A SANDBOX (cutbox-rows.mjs): the forced cells as the released guide's own fill.sh prints them over the translation 845442d6e2bb52de… (all of the seat's roots in one cut). By AI agents, Wed Nov 11 2026. No macro, syntax, notation, axiom, sorry.
-/
import Derived.Test.Qxb6605316aChecked
import GoSem.Claim
import GoSem.ClaimJoined
import GoSem.ClaimMapViews
import Derived.JoinedTies
import Derived.KernelRfl
namespace Go.Proofs.Qxb6605316a
/- THE CELL 'sum', in the pinned program and in every row, IS THE sha256 OF THE DUMP (.gsa) THAT Qxb6605316aProg.lean LOADS. Nothing in Lean hashes anything: it is a label: what it is worth is what the hold of that sum in a sandbox is worth. -/
noncomputable def Try.pinned : Pinned := { name := "qxb6605316a", sum := "845442d6e2bb52de2981058d5ad7dc5031364e906d6fcbdb6d8f1627eae02fb8", checked := Try.checked }
namespace Rows
def none {H : Type} : Left H := { results := [], args := [] }

/-- 'zzlaws_internal_model_b1.FnIsSNNMatchesPublishedPattern': WHATEVER THE INPUT: true; the input reads as it did. -/
def fnIsSNNMatchesPublishedPatternSpec : ChangeSpec := { name := "fnIsSNNMatchesPublishedPattern", fn := fun _ => fun
  | [d] => { results := [.lit (.bool true)], args := [d] }
  | _ => none }
def fnIsSNNMatchesPublishedPatternRow : OpenClaim := { program := "qxb6605316a", sum := "845442d6e2bb52de2981058d5ad7dc5031364e906d6fcbdb6d8f1627eae02fb8", func := "example.com/limpet/limpet/zzlaws_internal_model_b1.FnIsSNNMatchesPublishedPattern", spec := "fnIsSNNMatchesPublishedPattern", apart := false }
def FnIsSNNMatchesPublishedPatternSaid : Prop := fnIsSNNMatchesPublishedPatternRow.holds Try.pinned (OpenSpec.ofChange fnIsSNNMatchesPublishedPatternSpec)

/-- ITS FALSE NEIGHBOUR: 'it returns false'. Refute it at one input. -/
def fnIsSNNMatchesPublishedPatternWrong : ChangeSpec := { name := "fnIsSNNMatchesPublishedPattern", fn := fun _ => fun
  | [d] => { results := [.lit (.bool false)], args := [d] }
  | _ => none }
def FnIsSNNMatchesPublishedPatternWrongFalsely : Prop := fnIsSNNMatchesPublishedPatternRow.holds Try.pinned (OpenSpec.ofChange fnIsSNNMatchesPublishedPatternWrong)

/-- 'zzlaws_internal_model_b1.FnNumberEndMatchesAutomaton': WHATEVER THE INPUT: true; the input reads as it did. -/
def fnNumberEndMatchesAutomatonSpec : ChangeSpec := { name := "fnNumberEndMatchesAutomaton", fn := fun _ => fun
  | [d1, d2] => { results := [.lit (.bool true)], args := [d1, d2] }
  | _ => none }
def fnNumberEndMatchesAutomatonRow : OpenClaim := { program := "qxb6605316a", sum := "845442d6e2bb52de2981058d5ad7dc5031364e906d6fcbdb6d8f1627eae02fb8", func := "example.com/limpet/limpet/zzlaws_internal_model_b1.FnNumberEndMatchesAutomaton", spec := "fnNumberEndMatchesAutomaton", apart := false }
def FnNumberEndMatchesAutomatonSaid : Prop := fnNumberEndMatchesAutomatonRow.holds Try.pinned (OpenSpec.ofChange fnNumberEndMatchesAutomatonSpec)

/-- ITS FALSE NEIGHBOUR: 'it returns false'. Refute it at one input. -/
def fnNumberEndMatchesAutomatonWrong : ChangeSpec := { name := "fnNumberEndMatchesAutomaton", fn := fun _ => fun
  | [d1, d2] => { results := [.lit (.bool false)], args := [d1, d2] }
  | _ => none }
def FnNumberEndMatchesAutomatonWrongFalsely : Prop := fnNumberEndMatchesAutomatonRow.holds Try.pinned (OpenSpec.ofChange fnNumberEndMatchesAutomatonWrong)

/-- 'zzlaws_internal_model_b1.FnNumberEndIsLocal': WHATEVER THE INPUT: true; the input reads as it did. -/
def fnNumberEndIsLocalSpec : ChangeSpec := { name := "fnNumberEndIsLocal", fn := fun _ => fun
  | [d1, d2, d3] => { results := [.lit (.bool true)], args := [d1, d2, d3] }
  | _ => none }
def fnNumberEndIsLocalRow : OpenClaim := { program := "qxb6605316a", sum := "845442d6e2bb52de2981058d5ad7dc5031364e906d6fcbdb6d8f1627eae02fb8", func := "example.com/limpet/limpet/zzlaws_internal_model_b1.FnNumberEndIsLocal", spec := "fnNumberEndIsLocal", apart := false }
def FnNumberEndIsLocalSaid : Prop := fnNumberEndIsLocalRow.holds Try.pinned (OpenSpec.ofChange fnNumberEndIsLocalSpec)

/-- ITS FALSE NEIGHBOUR: 'it returns false'. Refute it at one input. -/
def fnNumberEndIsLocalWrong : ChangeSpec := { name := "fnNumberEndIsLocal", fn := fun _ => fun
  | [d1, d2, d3] => { results := [.lit (.bool false)], args := [d1, d2, d3] }
  | _ => none }
def FnNumberEndIsLocalWrongFalsely : Prop := fnNumberEndIsLocalRow.holds Try.pinned (OpenSpec.ofChange fnNumberEndIsLocalWrong)

/-- 'zzlaws_internal_model_b1.FnSkipCutsTheValueAtAt': WHATEVER THE INPUT: true; the input reads as it did. -/
def fnSkipCutsTheValueAtAtSpec : ChangeSpec := { name := "fnSkipCutsTheValueAtAt", fn := fun _ => fun
  | [d1, d2] => { results := [.lit (.bool true)], args := [d1, d2] }
  | _ => none }
def fnSkipCutsTheValueAtAtRow : OpenClaim := { program := "qxb6605316a", sum := "845442d6e2bb52de2981058d5ad7dc5031364e906d6fcbdb6d8f1627eae02fb8", func := "example.com/limpet/limpet/zzlaws_internal_model_b1.FnSkipCutsTheValueAtAt", spec := "fnSkipCutsTheValueAtAt", recurses := true, apart := false }
def FnSkipCutsTheValueAtAtSaid : Prop := fnSkipCutsTheValueAtAtRow.holds Try.pinned (OpenSpec.ofChange fnSkipCutsTheValueAtAtSpec)

/-- ITS FALSE NEIGHBOUR: 'it returns false'. Refute it at one input. -/
def fnSkipCutsTheValueAtAtWrong : ChangeSpec := { name := "fnSkipCutsTheValueAtAt", fn := fun _ => fun
  | [d1, d2] => { results := [.lit (.bool false)], args := [d1, d2] }
  | _ => none }
def FnSkipCutsTheValueAtAtWrongFalsely : Prop := fnSkipCutsTheValueAtAtRow.holds Try.pinned (OpenSpec.ofChange fnSkipCutsTheValueAtAtWrong)

end Rows
end Go.Proofs.Qxb6605316a
