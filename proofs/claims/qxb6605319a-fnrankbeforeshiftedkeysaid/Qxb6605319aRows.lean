/-
  No cell of these rows narrows 'for every input' (looked for: loops, veiled, ifaces, maps, wideKeys, modest, calm, conditions, laid).
  DERIVED. THE GIVEN ROWS OF THIS SEAT. 2 by the template 'for every input the law returns true; each argument reads behind the call as it read before'; 0 by the template 'total and deterministic' (their statements: Qxb6605319aTotals.lean).
  GIVEN WITH THE SEED: the statements are not yours to turn. If you find one false, say at which input.
  Laid BY PROGRAM, IN A SANDBOX (cutbox-rows.mjs): the forced cells as the released guide's own fill.sh prints them over the translation ee6be0cbb58e0deb… (all of the seat's roots in one cut). By AI agents, Wed Nov 11 2026. No macro, syntax, notation, axiom, sorry.
-/
import Derived.Test.Qxb6605319aChecked
import GoSem.Claim
import GoSem.ClaimJoined
import GoSem.ClaimMapViews
import Derived.JoinedTies
import Derived.KernelRfl
namespace Go.Proofs.Qxb6605319a
/- THE CELL 'sum', in the pinned program and in every row, IS THE sha256 OF THE DUMP (.gsa) THAT Qxb6605319aProg.lean LOADS. Nothing in Lean hashes anything: it is a label: what it is worth is what the hold of that sum in a sandbox is worth. -/
noncomputable def Try.pinned : Pinned := { name := "qxb6605319a", sum := "ee6be0cbb58e0deb96bea42aa76c971f529debe85538315b19934c24dbbc3e78", checked := Try.checked }
namespace Rows
def none {H : Type} : Left H := { results := [], args := [] }

/-- 'zzlaws_pkg_batches_b1.FnRankBeforeShiftedKey': WHATEVER THE INPUT: true; the input reads as it did. -/
def fnRankBeforeShiftedKeySpec : ChangeSpec := { name := "fnRankBeforeShiftedKey", fn := fun _ => fun
  | [d1, d2, d3, d4] => { results := [.lit (.bool true)], args := [d1, d2, d3, d4] }
  | _ => none }
def fnRankBeforeShiftedKeyRow : OpenClaim := { program := "qxb6605319a", sum := "ee6be0cbb58e0deb96bea42aa76c971f529debe85538315b19934c24dbbc3e78", func := "example.com/attestset/attestset/zzlaws_pkg_batches_b1.FnRankBeforeShiftedKey", spec := "fnRankBeforeShiftedKey", apart := false }
def FnRankBeforeShiftedKeySaid : Prop := fnRankBeforeShiftedKeyRow.holds Try.pinned (OpenSpec.ofChange fnRankBeforeShiftedKeySpec)

/-- ITS FALSE NEIGHBOUR: 'it returns false'. Refute it at one input. -/
def fnRankBeforeShiftedKeyWrong : ChangeSpec := { name := "fnRankBeforeShiftedKey", fn := fun _ => fun
  | [d1, d2, d3, d4] => { results := [.lit (.bool false)], args := [d1, d2, d3, d4] }
  | _ => none }
def FnRankBeforeShiftedKeyWrongFalsely : Prop := fnRankBeforeShiftedKeyRow.holds Try.pinned (OpenSpec.ofChange fnRankBeforeShiftedKeyWrong)

/-- 'zzlaws_pkg_batches_b1.FnRankBeforeStrictTotalOrder': WHATEVER THE INPUT: true; the input reads as it did. -/
def fnRankBeforeStrictTotalOrderSpec : ChangeSpec := { name := "fnRankBeforeStrictTotalOrder", fn := fun _ => fun
  | [d1, d2, d3, d4, d5, d6] => { results := [.lit (.bool true)], args := [d1, d2, d3, d4, d5, d6] }
  | _ => none }
def fnRankBeforeStrictTotalOrderRow : OpenClaim := { program := "qxb6605319a", sum := "ee6be0cbb58e0deb96bea42aa76c971f529debe85538315b19934c24dbbc3e78", func := "example.com/attestset/attestset/zzlaws_pkg_batches_b1.FnRankBeforeStrictTotalOrder", spec := "fnRankBeforeStrictTotalOrder", apart := false }
def FnRankBeforeStrictTotalOrderSaid : Prop := fnRankBeforeStrictTotalOrderRow.holds Try.pinned (OpenSpec.ofChange fnRankBeforeStrictTotalOrderSpec)

/-- ITS FALSE NEIGHBOUR: 'it returns false'. Refute it at one input. -/
def fnRankBeforeStrictTotalOrderWrong : ChangeSpec := { name := "fnRankBeforeStrictTotalOrder", fn := fun _ => fun
  | [d1, d2, d3, d4, d5, d6] => { results := [.lit (.bool false)], args := [d1, d2, d3, d4, d5, d6] }
  | _ => none }
def FnRankBeforeStrictTotalOrderWrongFalsely : Prop := fnRankBeforeStrictTotalOrderRow.holds Try.pinned (OpenSpec.ofChange fnRankBeforeStrictTotalOrderWrong)

end Rows
end Go.Proofs.Qxb6605319a
