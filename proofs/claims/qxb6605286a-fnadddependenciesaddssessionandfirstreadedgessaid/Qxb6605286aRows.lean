/-
  No cell of these rows narrows 'for every input' (looked for: loops, veiled, ifaces, maps, wideKeys, modest, calm, conditions, laid).
  DERIVED. THE GIVEN ROWS OF THIS SEAT. 3 by the template 'for every input the law returns true; each argument reads behind the call as it read before'; 0 by the template 'total and deterministic' (their statements: Qxb6605286aTotals.lean).
  GIVEN WITH THE SEED: the statements are not yours to turn. If you find one false, say at which input.
  Laid BY PROGRAM, IN A SANDBOX (cutbox-rows.mjs): the forced cells as the released guide's own fill.sh prints them over the translation 2351c3ee75777ef1… (all of the seat's roots in one cut). By AI agents, Wed Nov 11 2026. No macro, syntax, notation, axiom, sorry.
-/
import Derived.Test.Qxb6605286aChecked
import GoSem.Claim
import GoSem.ClaimJoined
import GoSem.ClaimMapViews
import Derived.JoinedTies
import Derived.KernelRfl
namespace Go.Proofs.Qxb6605286a
/- THE CELL 'sum', in the pinned program and in every row, IS THE sha256 OF THE DUMP (.gsa) THAT Qxb6605286aProg.lean LOADS. Nothing in Lean hashes anything: it is a label: what it is worth is what the hold of that sum in a sandbox is worth. -/
noncomputable def Try.pinned : Pinned := { name := "qxb6605286a", sum := "2351c3ee75777ef12c514ac2f722868c1bf5f2a32f3a31a1733f4b7b775c3ebf", checked := Try.checked }
namespace Rows
def none {H : Type} : Left H := { results := [], args := [] }

/-- 'zzlaws_internal_history_b1.FnSortListsExactlyTheAcyclicAncestryInFifoOrder': WHATEVER THE INPUT: true; the input reads as it did. -/
def fnSortListsExactlyTheAcyclicAncestryInFifoOrderSpec : ChangeSpec := { name := "fnSortListsExactlyTheAcyclicAncestryInFifoOrder", fn := fun _ => fun
  | [d1, d2] => { results := [.lit (.bool true)], args := [d1, d2] }
  | _ => none }
def fnSortListsExactlyTheAcyclicAncestryInFifoOrderRow : OpenClaim := { program := "qxb6605286a", sum := "2351c3ee75777ef12c514ac2f722868c1bf5f2a32f3a31a1733f4b7b775c3ebf", func := "example.com/harborpeer/harborpeer/zzlaws_internal_history_b1.FnSortListsExactlyTheAcyclicAncestryInFifoOrder", spec := "fnSortListsExactlyTheAcyclicAncestryInFifoOrder", unfollowed := true, recurses := true, plainKeys := false, apart := false }
def FnSortListsExactlyTheAcyclicAncestryInFifoOrderSaid : Prop := fnSortListsExactlyTheAcyclicAncestryInFifoOrderRow.holds Try.pinned (OpenSpec.ofChange fnSortListsExactlyTheAcyclicAncestryInFifoOrderSpec)

/-- ITS FALSE NEIGHBOUR: 'it returns false'. Refute it at one input. -/
def fnSortListsExactlyTheAcyclicAncestryInFifoOrderWrong : ChangeSpec := { name := "fnSortListsExactlyTheAcyclicAncestryInFifoOrder", fn := fun _ => fun
  | [d1, d2] => { results := [.lit (.bool false)], args := [d1, d2] }
  | _ => none }
def FnSortListsExactlyTheAcyclicAncestryInFifoOrderWrongFalsely : Prop := fnSortListsExactlyTheAcyclicAncestryInFifoOrderRow.holds Try.pinned (OpenSpec.ofChange fnSortListsExactlyTheAcyclicAncestryInFifoOrderWrong)

/-- 'zzlaws_internal_history_b1.FnPathIsAShortestChainAlongDeps': WHATEVER THE INPUT: true; the input reads as it did. -/
def fnPathIsAShortestChainAlongDepsSpec : ChangeSpec := { name := "fnPathIsAShortestChainAlongDeps", fn := fun _ => fun
  | [d1, d2, d3] => { results := [.lit (.bool true)], args := [d1, d2, d3] }
  | _ => none }
def fnPathIsAShortestChainAlongDepsRow : OpenClaim := { program := "qxb6605286a", sum := "2351c3ee75777ef12c514ac2f722868c1bf5f2a32f3a31a1733f4b7b775c3ebf", func := "example.com/harborpeer/harborpeer/zzlaws_internal_history_b1.FnPathIsAShortestChainAlongDeps", spec := "fnPathIsAShortestChainAlongDeps", plainKeys := false, apart := false }
def FnPathIsAShortestChainAlongDepsSaid : Prop := fnPathIsAShortestChainAlongDepsRow.holds Try.pinned (OpenSpec.ofChange fnPathIsAShortestChainAlongDepsSpec)

/-- ITS FALSE NEIGHBOUR: 'it returns false'. Refute it at one input. -/
def fnPathIsAShortestChainAlongDepsWrong : ChangeSpec := { name := "fnPathIsAShortestChainAlongDeps", fn := fun _ => fun
  | [d1, d2, d3] => { results := [.lit (.bool false)], args := [d1, d2, d3] }
  | _ => none }
def FnPathIsAShortestChainAlongDepsWrongFalsely : Prop := fnPathIsAShortestChainAlongDepsRow.holds Try.pinned (OpenSpec.ofChange fnPathIsAShortestChainAlongDepsWrong)

/-- 'zzlaws_internal_history_b1.FnAddDependenciesAddsSessionAndFirstReadEdges': WHATEVER THE INPUT: true; the input reads as it did. -/
def fnAddDependenciesAddsSessionAndFirstReadEdgesSpec : ChangeSpec := { name := "fnAddDependenciesAddsSessionAndFirstReadEdges", fn := fun _ => fun
  | [d1, d2, d3, d4, d5, d6] => { results := [.lit (.bool true)], args := [d1, d2, d3, d4, d5, d6] }
  | _ => none }
def fnAddDependenciesAddsSessionAndFirstReadEdgesRow : OpenClaim := { program := "qxb6605286a", sum := "2351c3ee75777ef12c514ac2f722868c1bf5f2a32f3a31a1733f4b7b775c3ebf", func := "example.com/harborpeer/harborpeer/zzlaws_internal_history_b1.FnAddDependenciesAddsSessionAndFirstReadEdges", spec := "fnAddDependenciesAddsSessionAndFirstReadEdges", plainKeys := false, apart := false }
def FnAddDependenciesAddsSessionAndFirstReadEdgesSaid : Prop := fnAddDependenciesAddsSessionAndFirstReadEdgesRow.holds Try.pinned (OpenSpec.ofChange fnAddDependenciesAddsSessionAndFirstReadEdgesSpec)

/-- ITS FALSE NEIGHBOUR: 'it returns false'. Refute it at one input. -/
def fnAddDependenciesAddsSessionAndFirstReadEdgesWrong : ChangeSpec := { name := "fnAddDependenciesAddsSessionAndFirstReadEdges", fn := fun _ => fun
  | [d1, d2, d3, d4, d5, d6] => { results := [.lit (.bool false)], args := [d1, d2, d3, d4, d5, d6] }
  | _ => none }
def FnAddDependenciesAddsSessionAndFirstReadEdgesWrongFalsely : Prop := fnAddDependenciesAddsSessionAndFirstReadEdgesRow.holds Try.pinned (OpenSpec.ofChange fnAddDependenciesAddsSessionAndFirstReadEdgesWrong)

end Rows
end Go.Proofs.Qxb6605286a
