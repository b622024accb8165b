/-
  A PROOF OF 'Rows.FnSortListsExactlyTheAcyclicAncestryInFifoOrderSaid': the arguments opened by 'open_arrs', the walk of Qxb6605286aLaw, the arguments shut by 'Below.trod' (the call makes memory, and leaves the old as it was).
-/
import Derived.Test.Qxb6605286aRows
import Derived.Test.Qxb6605286aLaw
import Derived.Test.Qxb6605286aOpen
import Derived.ChangeOld
import Derived.Below
import Derived.Carry
import Derived.WalkKit
import Derived.ProofKit
import Derived.OpenShut
import Derived.ShutString
namespace Go.Proofs.Qxb6605286a.fnSortListsExactlyTheAcyclicAncestryInFifoOrder
open Go.ChangeShapes Go.WideShapes Go.ChangeAt Go.RowKit

theorem own : ownKnob Try.prog.godebug = none := by kernel_rfl
theorem laidOut : laidOutB Try.prog = true := by kernel_rfl
theorem cells49 : Try.prog.cellsOf 49 = 2 := by kernel_rfl
theorem cells25 : Try.prog.cellsOf 25 = 3 := by kernel_rfl
theorem cells3 : Try.prog.cellsOf 3 = 1 := by kernel_rfl
theorem cells21 : Try.prog.cellsOf 21 = 1 := by kernel_rfl

/-! ### THE WALK, FOR EVERY LENGTH -/
theorem walk (a1 a2 : Option Addr) (n c1 m c2 : Nat) (zr z : Nat → Int) (w : World) (hn : n ≤ maxLen) (hm : m ≤ maxLen) (hnil1 : a1 = none → n = 0 ∧ c1 = 0) (hnil2 : a2 = none → m = 0 ∧ c2 = 0) (hC1 : Cells w a1 (n * 2) (fun i => .int .i64 (zr i)))
    (hC2 : Cells w a2 (m * 3) (fun i => .int .i32 (z i))) (hwz : ∀ i, (Lit.int .i32 (z i)).wf = true) :
    Calls Try.prog 3 #[.slice a1 n c1, .slice a2 m c2] w fun e w' => e = .returned (.bool true) ∧ Below w.heap.size w w' := by
  have e0 : maxLen = 9223372036854775807 := by decide
  rw [e0] at hn hm
  by_cases h : 1048576 < n + m ∨ n + m ≤ 1048576 ∧ (16384 < n ∨ 65536 < m)
  · exact law_big a1 a2 n c1 m c2 w hn hm h
  · exact law_any a1 a2 n c1 m c2 zr z w (by omega) (by omega) hnil1 hnil2 hC1 hC2 (fun i => bounds_i32 (hwz i))

/-! ### THE ROW's STEP -/
set_option maxRecDepth 100000 in
theorem lifted (os : Os) (started : os.Started) (H : Type) (enc : TypeId × Value → H) :
    ReturnsInHanded {} Try.checked os 3 .any (Rows.fnSortListsExactlyTheAcyclicAncestryInFifoOrderSpec.pre6 enc Try.prog Try.f3 Rows.fnSortListsExactlyTheAcyclicAncestryInFifoOrderRow.domain false) (Rows.fnSortListsExactlyTheAcyclicAncestryInFifoOrderSpec.post enc Try.prog Try.f3 false true false false) := by
  refine returnsInHanded_of_change (C := Try.checked) own started (by kernel_rfl) Try.func3
    (ChangeSpec.witness6 (enc := enc) (C := Try.checked) false ⟨#[], #[.slice none 0 0, .slice none 0 0], []⟩ 8 (by kernel_rfl) (by kernel_rfl) (by kernel_rfl) (by kernel_rfl)) ?_
  intro W base args ds gs before hval0 hW hcnd _
  have hval : ∀ (j : Nat) t v, Try.f3.params[j]? = some t → args[j]? = some v → Value.okWide Try.prog W .any base t v := hval0
  have hW' := hW
  obtain ⟨p, q, hA0, hV, rfl, hfz, hnd⟩ := hW
  have hA : DataW.TrodAll enc Try.prog W 0 (fun _ => true) true Try.f3.params.toList args.toList ds p := hA0
  rw [Try.params3] at hA hval
  obtain ⟨v0, vs0, d0, ds0, p0, q0, hargs, rfl, rfl, h0, r0⟩ := trodAll_cons hA
  obtain ⟨v1, vs1, d1, ds1, p1, q1, rfl, rfl, rfl, h1, r1⟩ := trodAll_cons r0
  obtain ⟨rfl, rfl, rfl⟩ := trodAll_nil r1
  obtain rfl : args = #[v0, v1] := by cases args; simp_all
  obtain ⟨rfl, rfl⟩ := trodVars_none hV
  obtain ⟨a0, n0, c0, rfl⟩ := okWide_slice Try.underlying22 (hval 0 22 v0 rfl rfl)
  obtain ⟨a1, n1, c1, rfl⟩ := okWide_slice Try.underlying23 (hval 1 23 v1 rfl rfl)
  have lt0 : ∀ x ∈ p0, x.block < W.heap.size := by obtain ⟨fu, hf⟩ := h0; exact DataW.trod_lt fu _ _ _ hf
  have lt1 : ∀ x ∈ p1, x.block < W.heap.size := by obtain ⟨fu, hf⟩ := h1; exact DataW.trod_lt fu _ _ _ hf
  obtain ⟨l0, nil0, zr, hC0, _⟩ := open_arrs Try.underlying22 Try.underlying49 Try.underlying3 cells49 cells3 (by decide) (by decide) h0
  obtain ⟨l1, nil1, z, hC1, hwz⟩ := open_arrs Try.underlying23 Try.underlying25 Try.underlying21 cells25 cells21 (by decide) (by decide) h1
  clear hA0 hval0
  refine (walk a0 a1 n0 c0 n1 c1 zr z W l0 l1 nil0 nil1 hC0 hC1 hwz).mono fun e W' ⟨he, bel⟩ => ?_
  subst he
  exact ⟨_, rfl, _, _, _, [], _, [], hW', trodAll_mk1 (shut_bool Try.underlying4 _), (trodAll_cons_mk (Below.trod laidOut (by kernel_rfl) (of_decide_eq_true (by kernel_rfl)) h0 bel lt0) (trodAll_cons_mk (Below.trod laidOut (by kernel_rfl) (of_decide_eq_true (by kernel_rfl)) h1 bel lt1) trodAll_mk0)), rfl, bel.frame _, fun h => by cases h⟩

theorem over : Rows.fnSortListsExactlyTheAcyclicAncestryInFifoOrderRow.holds Try.pinned (OpenSpec.ofChange Rows.fnSortListsExactlyTheAcyclicAncestryInFifoOrderSpec) :=
  OpenClaim.holds_of_wide 3 Try.f3 rfl rfl rfl rfl rfl rfl rfl ⟨rfl, rfl, rfl, rfl, rfl⟩ rfl rfl rfl rfl rfl (by kernel_rfl) Try.func3 (by kernel_rfl)
    (of_decide_eq_true (by kernel_rfl)) (by unfold Func.isWrapper; first | (rw [if_pos (by decide +kernel)]; kernel_rfl) | (rw [if_neg (by decide +kernel)]; exact ⟨rfl, rfl⟩))
    (fun os started H enc _ => lifted os started H enc)

/-- ████ THE STATEMENT ████ -/
theorem proved : Rows.FnSortListsExactlyTheAcyclicAncestryInFifoOrderSaid :=
  over
#print axioms proved
end Go.Proofs.Qxb6605286a.fnSortListsExactlyTheAcyclicAncestryInFifoOrder
