/-
  No cell of these rows narrows 'for every input' (looked for: loops, veiled, ifaces, maps, wideKeys, modest, calm, conditions, laid).
  DERIVED. THE GIVEN ROWS OF THIS SEAT. 5 by the template 'for every input the law returns true; each argument reads behind the call as it read before'; 0 by the template 'total and deterministic' (their statements: Qxb6600458aTotals.lean).
  GIVEN WITH THE SEED: the statements are not yours to turn. If you find one false, say at which input.
  Laid BY PROGRAM, IN A SANDBOX (cutbox-rows.mjs): the forced cells as the released guide's own fill.sh prints them over the translation 286192041967a767… (all of the seat's roots in one cut). By AI agents, Wed Nov 11 2026. No macro, syntax, notation, axiom, sorry.
-/
import Derived.Test.Qxb6600458aChecked
import GoSem.Claim
import GoSem.ClaimJoined
import GoSem.ClaimMapViews
import Derived.JoinedTies
import Derived.KernelRfl
namespace Go.Proofs.Qxb6600458a
/- THE CELL 'sum', in the pinned program and in every row, IS THE sha256 OF THE DUMP (.gsa) THAT Qxb6600458aProg.lean LOADS. Nothing in Lean hashes anything: it is a label: what it is worth is what the hold of that sum in a sandbox is worth. -/
noncomputable def Try.pinned : Pinned := { name := "qxb6600458a", sum := "286192041967a767708170f13e112c44c8ec946b288244d7a494847d0d2f7302", checked := Try.checked }
namespace Rows
def none {H : Type} : Left H := { results := [], args := [] }

/-- 'zzlaws_root_b1.FnTallyIgnoresNonVotersAndLearners': WHATEVER THE INPUT: true; the input reads as it did. -/
def fnTallyIgnoresNonVotersAndLearnersSpec : ChangeSpec := { name := "fnTallyIgnoresNonVotersAndLearners", fn := fun _ => fun
  | [d1, d2, d3, d4, d5, d6] => { results := [.lit (.bool true)], args := [d1, d2, d3, d4, d5, d6] }
  | _ => none }
def fnTallyIgnoresNonVotersAndLearnersRow : OpenClaim := { program := "qxb6600458a", sum := "286192041967a767708170f13e112c44c8ec946b288244d7a494847d0d2f7302", func := "example.com/helmline/helmline/zzlaws_root_b1.FnTallyIgnoresNonVotersAndLearners", spec := "fnTallyIgnoresNonVotersAndLearners", apart := false }
def FnTallyIgnoresNonVotersAndLearnersSaid : Prop := fnTallyIgnoresNonVotersAndLearnersRow.holds Try.pinned (OpenSpec.ofChange fnTallyIgnoresNonVotersAndLearnersSpec)

/-- ITS FALSE NEIGHBOUR: 'it returns false'. Refute it at one input. -/
def fnTallyIgnoresNonVotersAndLearnersWrong : ChangeSpec := { name := "fnTallyIgnoresNonVotersAndLearners", fn := fun _ => fun
  | [d1, d2, d3, d4, d5, d6] => { results := [.lit (.bool false)], args := [d1, d2, d3, d4, d5, d6] }
  | _ => none }
def FnTallyIgnoresNonVotersAndLearnersWrongFalsely : Prop := fnTallyIgnoresNonVotersAndLearnersRow.holds Try.pinned (OpenSpec.ofChange fnTallyIgnoresNonVotersAndLearnersWrong)

/-- 'zzlaws_root_b1.FnTallyGrantNeverHurts': WHATEVER THE INPUT: true; the input reads as it did. -/
def fnTallyGrantNeverHurtsSpec : ChangeSpec := { name := "fnTallyGrantNeverHurts", fn := fun _ => fun
  | [d1, d2, d3, d4] => { results := [.lit (.bool true)], args := [d1, d2, d3, d4] }
  | _ => none }
def fnTallyGrantNeverHurtsRow : OpenClaim := { program := "qxb6600458a", sum := "286192041967a767708170f13e112c44c8ec946b288244d7a494847d0d2f7302", func := "example.com/helmline/helmline/zzlaws_root_b1.FnTallyGrantNeverHurts", spec := "fnTallyGrantNeverHurts", apart := false }
def FnTallyGrantNeverHurtsSaid : Prop := fnTallyGrantNeverHurtsRow.holds Try.pinned (OpenSpec.ofChange fnTallyGrantNeverHurtsSpec)

/-- ITS FALSE NEIGHBOUR: 'it returns false'. Refute it at one input. -/
def fnTallyGrantNeverHurtsWrong : ChangeSpec := { name := "fnTallyGrantNeverHurts", fn := fun _ => fun
  | [d1, d2, d3, d4] => { results := [.lit (.bool false)], args := [d1, d2, d3, d4] }
  | _ => none }
def FnTallyGrantNeverHurtsWrongFalsely : Prop := fnTallyGrantNeverHurtsRow.holds Try.pinned (OpenSpec.ofChange fnTallyGrantNeverHurtsWrong)

/-- 'zzlaws_root_b1.FnAcceptMatchesCaseTable': WHATEVER THE INPUT: true; the input reads as it did. -/
def fnAcceptMatchesCaseTableSpec : ChangeSpec := { name := "fnAcceptMatchesCaseTable", fn := fun _ => fun
  | [d1, d2, d3, d4, d5, d6, d7, d8, d9, d10] => { results := [.lit (.bool true)], args := [d1, d2, d3, d4, d5, d6, d7, d8, d9, d10] }
  | _ => none }
def fnAcceptMatchesCaseTableRow : OpenClaim := { program := "qxb6600458a", sum := "286192041967a767708170f13e112c44c8ec946b288244d7a494847d0d2f7302", func := "example.com/helmline/helmline/zzlaws_root_b1.FnAcceptMatchesCaseTable", spec := "fnAcceptMatchesCaseTable", apart := false }
def FnAcceptMatchesCaseTableSaid : Prop := fnAcceptMatchesCaseTableRow.holds Try.pinned (OpenSpec.ofChange fnAcceptMatchesCaseTableSpec)

/-- ITS FALSE NEIGHBOUR: 'it returns false'. Refute it at one input. -/
def fnAcceptMatchesCaseTableWrong : ChangeSpec := { name := "fnAcceptMatchesCaseTable", fn := fun _ => fun
  | [d1, d2, d3, d4, d5, d6, d7, d8, d9, d10] => { results := [.lit (.bool false)], args := [d1, d2, d3, d4, d5, d6, d7, d8, d9, d10] }
  | _ => none }
def FnAcceptMatchesCaseTableWrongFalsely : Prop := fnAcceptMatchesCaseTableRow.holds Try.pinned (OpenSpec.ofChange fnAcceptMatchesCaseTableWrong)

/-- 'zzlaws_root_b1.FnAcceptIsIdempotent': WHATEVER THE INPUT: true; the input reads as it did. -/
def fnAcceptIsIdempotentSpec : ChangeSpec := { name := "fnAcceptIsIdempotent", fn := fun _ => fun
  | [d1, d2, d3, d4, d5, d6, d7, d8, d9, d10] => { results := [.lit (.bool true)], args := [d1, d2, d3, d4, d5, d6, d7, d8, d9, d10] }
  | _ => none }
def fnAcceptIsIdempotentRow : OpenClaim := { program := "qxb6600458a", sum := "286192041967a767708170f13e112c44c8ec946b288244d7a494847d0d2f7302", func := "example.com/helmline/helmline/zzlaws_root_b1.FnAcceptIsIdempotent", spec := "fnAcceptIsIdempotent", apart := false }
def FnAcceptIsIdempotentSaid : Prop := fnAcceptIsIdempotentRow.holds Try.pinned (OpenSpec.ofChange fnAcceptIsIdempotentSpec)

/-- ITS FALSE NEIGHBOUR: 'it returns false'. Refute it at one input. -/
def fnAcceptIsIdempotentWrong : ChangeSpec := { name := "fnAcceptIsIdempotent", fn := fun _ => fun
  | [d1, d2, d3, d4, d5, d6, d7, d8, d9, d10] => { results := [.lit (.bool false)], args := [d1, d2, d3, d4, d5, d6, d7, d8, d9, d10] }
  | _ => none }
def FnAcceptIsIdempotentWrongFalsely : Prop := fnAcceptIsIdempotentRow.holds Try.pinned (OpenSpec.ofChange fnAcceptIsIdempotentWrong)

/-- 'zzlaws_root_b1.FnAcceptTwiceIsAcceptAtTheLarger': WHATEVER THE INPUT: true; the input reads as it did. -/
def fnAcceptTwiceIsAcceptAtTheLargerSpec : ChangeSpec := { name := "fnAcceptTwiceIsAcceptAtTheLarger", fn := fun _ => fun
  | [d1, d2, d3, d4, d5, d6, d7, d8, d9, d10, d11] => { results := [.lit (.bool true)], args := [d1, d2, d3, d4, d5, d6, d7, d8, d9, d10, d11] }
  | _ => none }
def fnAcceptTwiceIsAcceptAtTheLargerRow : OpenClaim := { program := "qxb6600458a", sum := "286192041967a767708170f13e112c44c8ec946b288244d7a494847d0d2f7302", func := "example.com/helmline/helmline/zzlaws_root_b1.FnAcceptTwiceIsAcceptAtTheLarger", spec := "fnAcceptTwiceIsAcceptAtTheLarger", apart := false }
def FnAcceptTwiceIsAcceptAtTheLargerSaid : Prop := fnAcceptTwiceIsAcceptAtTheLargerRow.holds Try.pinned (OpenSpec.ofChange fnAcceptTwiceIsAcceptAtTheLargerSpec)

/-- ITS FALSE NEIGHBOUR: 'it returns false'. Refute it at one input. -/
def fnAcceptTwiceIsAcceptAtTheLargerWrong : ChangeSpec := { name := "fnAcceptTwiceIsAcceptAtTheLarger", fn := fun _ => fun
  | [d1, d2, d3, d4, d5, d6, d7, d8, d9, d10, d11] => { results := [.lit (.bool false)], args := [d1, d2, d3, d4, d5, d6, d7, d8, d9, d10, d11] }
  | _ => none }
def FnAcceptTwiceIsAcceptAtTheLargerWrongFalsely : Prop := fnAcceptTwiceIsAcceptAtTheLargerRow.holds Try.pinned (OpenSpec.ofChange fnAcceptTwiceIsAcceptAtTheLargerWrong)

end Rows
end Go.Proofs.Qxb6600458a
