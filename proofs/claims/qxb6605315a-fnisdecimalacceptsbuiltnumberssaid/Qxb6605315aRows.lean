/-
  No cell of these rows narrows 'for every input' (looked for: loops, veiled, ifaces, maps, wideKeys, modest, calm, conditions, laid).
  DERIVED. THE GIVEN ROWS OF THIS SEAT. 2 by the template 'for every input the law returns true; each argument reads behind the call as it read before'; 0 by the template 'total and deterministic' (their statements: Qxb6605315aTotals.lean).
  GIVEN WITH THE SEED: the statements are not yours to turn. If you find one false, say at which input.
  Laid BY PROGRAM, IN A SANDBOX (cutbox-rows.mjs): the forced cells as the released guide's own fill.sh prints them over the translation dd431656fa9435d6… (all of the seat's roots in one cut). By AI agents, Wed Nov 11 2026. No macro, syntax, notation, axiom, sorry.
-/
import Derived.Test.Qxb6605315aChecked
import GoSem.Claim
import GoSem.ClaimJoined
import GoSem.ClaimMapViews
import Derived.JoinedTies
import Derived.KernelRfl
namespace Go.Proofs.Qxb6605315a
/- THE CELL 'sum', in the pinned program and in every row, IS THE sha256 OF THE DUMP (.gsa) THAT Qxb6605315aProg.lean LOADS. Nothing in Lean hashes anything: it is a label: what it is worth is what the hold of that sum in a sandbox is worth. -/
noncomputable def Try.pinned : Pinned := { name := "qxb6605315a", sum := "dd431656fa9435d60b6cb103fc26fe10e1aea185dc59c635fbc1d9c17b657a08", checked := Try.checked }
namespace Rows
def none {H : Type} : Left H := { results := [], args := [] }

/-- 'zzlaws_pkg_num_b1.FnIsDecimalMatchesGrammarModel': WHATEVER THE INPUT: true; the input reads as it did. -/
def fnIsDecimalMatchesGrammarModelSpec : ChangeSpec := { name := "fnIsDecimalMatchesGrammarModel", fn := fun _ => fun
  | [d] => { results := [.lit (.bool true)], args := [d] }
  | _ => none }
def fnIsDecimalMatchesGrammarModelRow : OpenClaim := { program := "qxb6605315a", sum := "dd431656fa9435d60b6cb103fc26fe10e1aea185dc59c635fbc1d9c17b657a08", func := "example.com/halyard-exec/halyard-exec/zzlaws_pkg_num_b1.FnIsDecimalMatchesGrammarModel", spec := "fnIsDecimalMatchesGrammarModel", apart := false }
def FnIsDecimalMatchesGrammarModelSaid : Prop := fnIsDecimalMatchesGrammarModelRow.holds Try.pinned (OpenSpec.ofChange fnIsDecimalMatchesGrammarModelSpec)

/-- ITS FALSE NEIGHBOUR: 'it returns false'. Refute it at one input. -/
def fnIsDecimalMatchesGrammarModelWrong : ChangeSpec := { name := "fnIsDecimalMatchesGrammarModel", fn := fun _ => fun
  | [d] => { results := [.lit (.bool false)], args := [d] }
  | _ => none }
def FnIsDecimalMatchesGrammarModelWrongFalsely : Prop := fnIsDecimalMatchesGrammarModelRow.holds Try.pinned (OpenSpec.ofChange fnIsDecimalMatchesGrammarModelWrong)

/-- 'zzlaws_pkg_num_b1.FnIsDecimalAcceptsBuiltNumbers': WHATEVER THE INPUT: true; the input reads as it did. -/
def fnIsDecimalAcceptsBuiltNumbersSpec : ChangeSpec := { name := "fnIsDecimalAcceptsBuiltNumbers", fn := fun _ => fun
  | [d1, d2, d3, d4, d5, d6, d7, d8, d9, d10, d11, d12] => { results := [.lit (.bool true)], args := [d1, d2, d3, d4, d5, d6, d7, d8, d9, d10, d11, d12] }
  | _ => none }
def fnIsDecimalAcceptsBuiltNumbersRow : OpenClaim := { program := "qxb6605315a", sum := "dd431656fa9435d60b6cb103fc26fe10e1aea185dc59c635fbc1d9c17b657a08", func := "example.com/halyard-exec/halyard-exec/zzlaws_pkg_num_b1.FnIsDecimalAcceptsBuiltNumbers", spec := "fnIsDecimalAcceptsBuiltNumbers", apart := false }
def FnIsDecimalAcceptsBuiltNumbersSaid : Prop := fnIsDecimalAcceptsBuiltNumbersRow.holds Try.pinned (OpenSpec.ofChange fnIsDecimalAcceptsBuiltNumbersSpec)

/-- ITS FALSE NEIGHBOUR: 'it returns false'. Refute it at one input. -/
def fnIsDecimalAcceptsBuiltNumbersWrong : ChangeSpec := { name := "fnIsDecimalAcceptsBuiltNumbers", fn := fun _ => fun
  | [d1, d2, d3, d4, d5, d6, d7, d8, d9, d10, d11, d12] => { results := [.lit (.bool false)], args := [d1, d2, d3, d4, d5, d6, d7, d8, d9, d10, d11, d12] }
  | _ => none }
def FnIsDecimalAcceptsBuiltNumbersWrongFalsely : Prop := fnIsDecimalAcceptsBuiltNumbersRow.holds Try.pinned (OpenSpec.ofChange fnIsDecimalAcceptsBuiltNumbersWrong)

end Rows
end Go.Proofs.Qxb6605315a
