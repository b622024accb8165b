/-
  A PROOF OF 'Rows.FnAddDependenciesAddsSessionAndFirstReadEdgesSaid': the six arguments opened (Qxb6605286aOpen, Qxb6605286aOpen2), the walks of Qxb6605286aLawAB and Qxb6605286aLawA, the arguments shut by 'Below.trod' (the call makes memory, and leaves the old as it was).
-/
import Derived.Test.Qxb6605286aRows
import Derived.Test.Qxb6605286aLawAB
import Derived.Test.Qxb6605286aLawA
import Derived.Test.Qxb6605286aOpen
import Derived.Test.Qxb6605286aOpen2
import Derived.ChangeOld
import Derived.Below
import Derived.Carry
import Derived.WalkKit
import Derived.ProofKit
import Derived.OpenShut
import Derived.ShutString
namespace Go.Proofs.Qxb6605286a.fnAddDependenciesAddsSessionAndFirstReadEdges
open Go.ChangeShapes Go.WideShapes Go.ChangeAt Go.RowKit

theorem own : ownKnob Try.prog.godebug = none := by kernel_rfl
theorem laidOut : laidOutB Try.prog = true := by kernel_rfl
theorem cells49 : Try.prog.cellsOf 49 = 2 := by kernel_rfl
theorem cells25 : Try.prog.cellsOf 25 = 3 := by kernel_rfl

/-! ### THE WALK, FOR EVERY LENGTH -/
theorem walk (w : World) (n ns F R m r c0 c1 c2 c3 c4 c5 : Nat) (a0 a1 a2 a3 a4 a5 : Option Addr) (zr : Nat → Int) (s f : Nat → Int) (rows : Nat → Value) (l : Nat → Nat) (D : Nat → Nat → T4) (E0 : Nat → T3) (Q0 : Nat → T4)
    (z0 : a0 = none → n = 0 ∧ c0 = 0) (z1 : a1 = none → ns = 0 ∧ c1 = 0) (z2 : a2 = none → F = 0 ∧ c2 = 0) (z3 : a3 = none → R = 0 ∧ c3 = 0) (z4 : a4 = none → m = 0 ∧ c4 = 0) (z5 : a5 = none → r = 0 ∧ c5 = 0)
    (h0 : Cells w a0 (n * 2) (fun i => .int .i64 (zr i))) (h1 : Cells w a1 ns (fun i => .int .i32 (s i))) (h2 : Cells w a2 F (fun i => .int .i32 (f i))) (h3 : Cells w a3 R rows) (hrows : RowsIn w R rows l D 0)
    (h4 : Cells w a4 (m * 3) (eF E0)) (h5 : Cells w a5 (r * 4) (rF Q0)) (hlb : ∀ t, l t ≤ 9223372036854775807)
    (hws : ∀ i, (Lit.int .i32 (s i)).wf = true) (hwf : ∀ i, (Lit.int .i32 (f i)).wf = true) :
    Calls Try.prog 5 #[.slice a0 n c0, .slice a1 ns c1, .slice a2 F c2, .slice a3 R c3, .slice a4 m c4, .slice a5 r c5] w fun e w' => e = .returned (.bool true) ∧ Below w.heap.size w w' := by
  by_cases h : 16384 < n ∨ 16384 < ns ∨ 16384 < F ∨ 16384 < R ∨ 16384 < m ∨ 16384 < r ∨ (n ≤ 16384 ∧ ns ≤ 16384 ∧ F ≤ 16384 ∧ R ≤ 16384 ∧ m ≤ 16384 ∧ r ≤ 16384 ∧ 1048576 < 16 * n + 4 * ns + 4 * F + 24 * R + 12 * m + 32 * r)
  · exact lawA_big w n ns F R m r c0 c1 c2 c3 c4 c5 a0 a1 a2 a3 a4 a5 h
  · exact lawA_any w n ns F R m r c0 c1 c2 c3 c4 c5 a0 a1 a2 a3 a4 a5 zr s f rows l D E0 Q0 (by omega) (by omega) (by omega) (by omega) (by omega) (by omega) (by omega) z0 z1 z2 z3 z4 z5 h0 h1 h2 h3 hrows h4 h5 hlb (fun i => bounds_i32 (hws i)) (fun i => bounds_i32 (hwf i))

/-! ### THE ROW's STEP -/
set_option maxRecDepth 100000 in
theorem lifted (os : Os) (started : os.Started) (H : Type) (enc : TypeId × Value → H) :
    ReturnsInHanded {} Try.checked os 5 .any (Rows.fnAddDependenciesAddsSessionAndFirstReadEdgesSpec.pre6 enc Try.prog Try.f5 Rows.fnAddDependenciesAddsSessionAndFirstReadEdgesRow.domain false) (Rows.fnAddDependenciesAddsSessionAndFirstReadEdgesSpec.post enc Try.prog Try.f5 false true false false) := by
  refine returnsInHanded_of_change (C := Try.checked) own started (by kernel_rfl) Try.func5
    (ChangeSpec.witness6 (enc := enc) (C := Try.checked) false ⟨#[], #[.slice none 0 0, .slice none 0 0, .slice none 0 0, .slice none 0 0, .slice none 0 0, .slice none 0 0], []⟩ 8 (by kernel_rfl) (by kernel_rfl) (by kernel_rfl) (by kernel_rfl)) ?_
  intro W base args ds gs before hval0 hW hcnd _
  have hval : ∀ (j : Nat) t v, Try.f5.params[j]? = some t → args[j]? = some v → Value.okWide Try.prog W .any base t v := hval0
  have hW' := hW
  obtain ⟨p, q, hA0, hV, rfl, hfz, hnd⟩ := hW
  have hA : DataW.TrodAll enc Try.prog W 0 (fun _ => true) true Try.f5.params.toList args.toList ds p := hA0
  rw [Try.params5] at hA hval
  obtain ⟨v0, vs0, d0, ds0, p0, q0, hargs, rfl, rfl, h0, r0⟩ := trodAll_cons hA
  obtain ⟨v1, vs1, d1, ds1, p1, q1, rfl, rfl, rfl, h1, r1⟩ := trodAll_cons r0
  obtain ⟨v2, vs2, d2, ds2, p2, q2, rfl, rfl, rfl, h2, r2⟩ := trodAll_cons r1
  obtain ⟨v3, vs3, d3, ds3, p3, q3, rfl, rfl, rfl, h3, r3⟩ := trodAll_cons r2
  obtain ⟨v4, vs4, d4, ds4, p4, q4, rfl, rfl, rfl, h4, r4⟩ := trodAll_cons r3
  obtain ⟨v5, vs5, d5, ds5, p5, q5, rfl, rfl, rfl, h5, r5⟩ := trodAll_cons r4
  obtain ⟨rfl, rfl, rfl⟩ := trodAll_nil r5
  obtain rfl : args = #[v0, v1, v2, v3, v4, v5] := by cases args; simp_all
  obtain ⟨rfl, rfl⟩ := trodVars_none hV
  obtain ⟨a0, n0, c0, rfl⟩ := okWide_slice Try.underlying22 (hval 0 22 v0 rfl rfl)
  obtain ⟨a1, n1, c1, rfl⟩ := okWide_slice Try.underlying28 (hval 1 28 v1 rfl rfl)
  obtain ⟨a2, n2, c2, rfl⟩ := okWide_slice Try.underlying28 (hval 2 28 v2 rfl rfl)
  obtain ⟨a3, n3, c3, rfl⟩ := okWide_slice Try.underlying37 (hval 3 37 v3 rfl rfl)
  obtain ⟨a4, n4, c4, rfl⟩ := okWide_slice Try.underlying23 (hval 4 23 v4 rfl rfl)
  obtain ⟨a5, n5, c5, rfl⟩ := okWide_slice Try.underlying38 (hval 5 38 v5 rfl rfl)
  have lt0 : ∀ x ∈ p0, x.block < W.heap.size := by obtain ⟨fu, hf⟩ := h0; exact DataW.trod_lt fu _ _ _ hf
  have lt1 : ∀ x ∈ p1, x.block < W.heap.size := by obtain ⟨fu, hf⟩ := h1; exact DataW.trod_lt fu _ _ _ hf
  have lt2 : ∀ x ∈ p2, x.block < W.heap.size := by obtain ⟨fu, hf⟩ := h2; exact DataW.trod_lt fu _ _ _ hf
  have lt3 : ∀ x ∈ p3, x.block < W.heap.size := by obtain ⟨fu, hf⟩ := h3; exact DataW.trod_lt fu _ _ _ hf
  have lt4 : ∀ x ∈ p4, x.block < W.heap.size := by obtain ⟨fu, hf⟩ := h4; exact DataW.trod_lt fu _ _ _ hf
  have lt5 : ∀ x ∈ p5, x.block < W.heap.size := by obtain ⟨fu, hf⟩ := h5; exact DataW.trod_lt fu _ _ _ hf
  obtain ⟨_, nil0, zr, hC0, _⟩ := open_arrs Try.underlying22 Try.underlying49 Try.underlying3 cells49 cellsq3 (by decide) (by decide) h0
  obtain ⟨_, nil1, s, hC1, hws⟩ := open_plain Try.underlying28 Try.underlying21 cellsq21 (by decide) h1
  obtain ⟨_, nil2, f, hC2, hwf⟩ := open_plain Try.underlying28 Try.underlying21 cellsq21 (by decide) h2
  obtain ⟨fu3, hf3⟩ := id h3
  obtain ⟨_, nil3, rows, l, D, hC3, hRW, hlb⟩ := open_rows hf3
  obtain ⟨_, nil4, z, hC4, _⟩ := open_arrs Try.underlying23 Try.underlying25 Try.underlying21 cells25 cellsq21 (by decide) (by decide) h4
  rw [eF_of] at hC4
  obtain ⟨fu5, hf5⟩ := id h5
  obtain ⟨_, nil5, Q, hC5⟩ := open_reasons hf5
  clear hA0 hval0
  refine (walk W n0 n1 n2 n3 n4 n5 c0 c1 c2 c3 c4 c5 a0 a1 a2 a3 a4 a5 zr s f rows l D _ Q nil0 nil1 nil2 nil3 nil4 nil5 hC0 hC1 hC2 hC3 hRW hC4 hC5 hlb hws hwf).mono fun e W' ⟨he, bel⟩ => ?_
  subst he
  exact ⟨_, rfl, _, _, _, [], _, [], hW', trodAll_mk1 (shut_bool Try.underlying4 _), (trodAll_cons_mk (Below.trod laidOut (by kernel_rfl) (of_decide_eq_true (by kernel_rfl)) h0 bel lt0) (trodAll_cons_mk (Below.trod laidOut (by kernel_rfl) (of_decide_eq_true (by kernel_rfl)) h1 bel lt1) (trodAll_cons_mk (Below.trod laidOut (by kernel_rfl) (of_decide_eq_true (by kernel_rfl)) h2 bel lt2) (trodAll_cons_mk (Below.trod laidOut (by kernel_rfl) (of_decide_eq_true (by kernel_rfl)) h3 bel lt3) (trodAll_cons_mk (Below.trod laidOut (by kernel_rfl) (of_decide_eq_true (by kernel_rfl)) h4 bel lt4) (trodAll_cons_mk (Below.trod laidOut (by kernel_rfl) (of_decide_eq_true (by kernel_rfl)) h5 bel lt5) trodAll_mk0)))))), rfl, bel.frame _, fun h => by cases h⟩

theorem over : Rows.fnAddDependenciesAddsSessionAndFirstReadEdgesRow.holds Try.pinned (OpenSpec.ofChange Rows.fnAddDependenciesAddsSessionAndFirstReadEdgesSpec) :=
  OpenClaim.holds_of_wide 5 Try.f5 rfl rfl rfl rfl rfl rfl rfl ⟨rfl, rfl, rfl, rfl, rfl⟩ rfl rfl rfl rfl rfl (by kernel_rfl) Try.func5 (by kernel_rfl)
    (of_decide_eq_true (by kernel_rfl)) (by unfold Func.isWrapper; first | (rw [if_pos (by decide +kernel)]; kernel_rfl) | (rw [if_neg (by decide +kernel)]; exact ⟨rfl, rfl⟩))
    (fun os started H enc _ => lifted os started H enc)

/-- ████ THE STATEMENT ████ -/
theorem proved : Rows.FnAddDependenciesAddsSessionAndFirstReadEdgesSaid :=
  over
#print axioms proved
end Go.Proofs.Qxb6605286a.fnAddDependenciesAddsSessionAndFirstReadEdges
