/-
  No cell of these rows narrows 'for every input' (looked for: loops, veiled, ifaces, maps, wideKeys, modest, calm, conditions, laid).
  DERIVED. THE GIVEN ROWS OF THIS SEAT. 3 by the template 'for every input the law returns true; each argument reads behind the call as it read before'; 0 by the template 'total and deterministic' (their statements: Qxb6605463aTotals.lean).
  GIVEN WITH THE SEED: the statements are not yours to turn. If you find one false, say at which input.
  Laid BY PROGRAM, IN A SANDBOX (cutbox-rows.mjs): the forced cells as the released guide's own fill.sh prints them over the translation ae4c529849754d35… (all of the seat's roots in one cut). By AI agents, Wed Nov 11 2026. No macro, syntax, notation, axiom, sorry.
-/
import Derived.Test.Qxb6605463aChecked
import GoSem.Claim
import GoSem.ClaimJoined
import GoSem.ClaimMapViews
import Derived.JoinedTies
import Derived.KernelRfl
namespace Go.Proofs.Qxb6605463a
/- THE CELL 'sum', in the pinned program and in every row, IS THE sha256 OF THE DUMP (.gsa) THAT Qxb6605463aProg.lean LOADS. Nothing in Lean hashes anything: it is a label: what it is worth is what the hold of that sum in a sandbox is worth. -/
noncomputable def Try.pinned : Pinned := { name := "qxb6605463a", sum := "ae4c529849754d35e48855417c7826b11316a59ad96bec1f2b77fb31da981dcd", checked := Try.checked }
namespace Rows
def none {H : Type} : Left H := { results := [], args := [] }

/-- 'zzlaws_mf2_b1.FnSignExactTable': WHATEVER THE INPUT: true; the input reads as it did. -/
def fnSignExactTableSpec : ChangeSpec := { name := "fnSignExactTable", fn := fun _ => fun
  | [d1, d2, d3, d4, d5, d6] => { results := [.lit (.bool true)], args := [d1, d2, d3, d4, d5, d6] }
  | _ => none }
def fnSignExactTableRow : OpenClaim := { program := "qxb6605463a", sum := "ae4c529849754d35e48855417c7826b11316a59ad96bec1f2b77fb31da981dcd", func := "example.com/catloom/catloom/zzlaws_mf2_b1.FnSignExactTable", spec := "fnSignExactTable", apart := false }
def FnSignExactTableSaid : Prop := fnSignExactTableRow.holds Try.pinned (OpenSpec.ofChange fnSignExactTableSpec)

/-- ITS FALSE NEIGHBOUR: 'it returns false'. Refute it at one input. -/
def fnSignExactTableWrong : ChangeSpec := { name := "fnSignExactTable", fn := fun _ => fun
  | [d1, d2, d3, d4, d5, d6] => { results := [.lit (.bool false)], args := [d1, d2, d3, d4, d5, d6] }
  | _ => none }
def FnSignExactTableWrongFalsely : Prop := fnSignExactTableRow.holds Try.pinned (OpenSpec.ofChange fnSignExactTableWrong)

/-- 'zzlaws_mf2_b1.FnGroupsClosedForm': WHATEVER THE INPUT: true; the input reads as it did. -/
def fnGroupsClosedFormSpec : ChangeSpec := { name := "fnGroupsClosedForm", fn := fun _ => fun
  | [d1, d2, d3] => { results := [.lit (.bool true)], args := [d1, d2, d3] }
  | _ => none }
def fnGroupsClosedFormRow : OpenClaim := { program := "qxb6605463a", sum := "ae4c529849754d35e48855417c7826b11316a59ad96bec1f2b77fb31da981dcd", func := "example.com/catloom/catloom/zzlaws_mf2_b1.FnGroupsClosedForm", spec := "fnGroupsClosedForm", apart := false }
def FnGroupsClosedFormSaid : Prop := fnGroupsClosedFormRow.holds Try.pinned (OpenSpec.ofChange fnGroupsClosedFormSpec)

/-- ITS FALSE NEIGHBOUR: 'it returns false'. Refute it at one input. -/
def fnGroupsClosedFormWrong : ChangeSpec := { name := "fnGroupsClosedForm", fn := fun _ => fun
  | [d1, d2, d3] => { results := [.lit (.bool false)], args := [d1, d2, d3] }
  | _ => none }
def FnGroupsClosedFormWrongFalsely : Prop := fnGroupsClosedFormRow.holds Try.pinned (OpenSpec.ofChange fnGroupsClosedFormWrong)

/-- 'zzlaws_mf2_b1.FnGroupsJoinBackAlwaysMost': WHATEVER THE INPUT: true; the input reads as it did. -/
def fnGroupsJoinBackAlwaysMostSpec : ChangeSpec := { name := "fnGroupsJoinBackAlwaysMost", fn := fun _ => fun
  | [d1, d2, d3] => { results := [.lit (.bool true)], args := [d1, d2, d3] }
  | _ => none }
def fnGroupsJoinBackAlwaysMostRow : OpenClaim := { program := "qxb6605463a", sum := "ae4c529849754d35e48855417c7826b11316a59ad96bec1f2b77fb31da981dcd", func := "example.com/catloom/catloom/zzlaws_mf2_b1.FnGroupsJoinBackAlwaysMost", spec := "fnGroupsJoinBackAlwaysMost", apart := false }
def FnGroupsJoinBackAlwaysMostSaid : Prop := fnGroupsJoinBackAlwaysMostRow.holds Try.pinned (OpenSpec.ofChange fnGroupsJoinBackAlwaysMostSpec)

/-- ITS FALSE NEIGHBOUR: 'it returns false'. Refute it at one input. -/
def fnGroupsJoinBackAlwaysMostWrong : ChangeSpec := { name := "fnGroupsJoinBackAlwaysMost", fn := fun _ => fun
  | [d1, d2, d3] => { results := [.lit (.bool false)], args := [d1, d2, d3] }
  | _ => none }
def FnGroupsJoinBackAlwaysMostWrongFalsely : Prop := fnGroupsJoinBackAlwaysMostRow.holds Try.pinned (OpenSpec.ofChange fnGroupsJoinBackAlwaysMostWrong)

end Rows
end Go.Proofs.Qxb6605463a
