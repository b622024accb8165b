/-
  ROWS OF STRUCTS, AS FUNCTIONS OF THE INDEX.
-/
import Derived.Test.Qxb6605286aMem
import Derived.Test.Qxb6605286aDepP
namespace Go.Proofs.Qxb6605286a
open Go.RowKit

/-- Edges: three i32. -/
def eF (E : Nat → T3) (i : Nat) : Value := if i % 3 = 0 then .int .i32 (E (i / 3)).1 else if i % 3 = 1 then .int .i32 (E (i / 3)).2.1 else .int .i32 (E (i / 3)).2.2
/-- Reads: i64, i64, i32, i32. -/
def dF (Q : Nat → T4) (i : Nat) : Value := if i % 4 = 0 then .int .i64 (Q (i / 4)).1 else if i % 4 = 1 then .int .i64 (Q (i / 4)).2.1 else if i % 4 = 2 then .int .i32 (Q (i / 4)).2.2.1 else .int .i32 (Q (i / 4)).2.2.2
/-- Reasons: i64, i64, i64, i32. -/
def rF (Q : Nat → T4) (i : Nat) : Value := if i % 4 = 0 then .int .i64 (Q (i / 4)).1 else if i % 4 = 1 then .int .i64 (Q (i / 4)).2.1 else if i % 4 = 2 then .int .i64 (Q (i / 4)).2.2.1 else .int .i32 (Q (i / 4)).2.2.2
theorem eF0 (E : Nat → T3) (j : Nat) : eF E (j * 3) = .int .i32 (E j).1 := by
  unfold eF; rw [if_pos (by omega), show j * 3 / 3 = j by omega]
theorem eF1 (E : Nat → T3) (j : Nat) : eF E (j * 3 + 1) = .int .i32 (E j).2.1 := by
  unfold eF; rw [if_neg (by omega), if_pos (by omega), show (j * 3 + 1) / 3 = j by omega]
theorem eF2 (E : Nat → T3) (j : Nat) : eF E (j * 3 + 2) = .int .i32 (E j).2.2 := by
  unfold eF; rw [if_neg (by omega), if_neg (by omega), show (j * 3 + 2) / 3 = j by omega]
theorem dF0 (Q : Nat → T4) (j : Nat) : dF Q (j * 4) = .int .i64 (Q j).1 := by
  unfold dF; rw [if_pos (by omega), show j * 4 / 4 = j by omega]
theorem dF1 (Q : Nat → T4) (j : Nat) : dF Q (j * 4 + 1) = .int .i64 (Q j).2.1 := by
  unfold dF; rw [if_neg (by omega), if_pos (by omega), show (j * 4 + 1) / 4 = j by omega]
theorem dF2 (Q : Nat → T4) (j : Nat) : dF Q (j * 4 + 2) = .int .i32 (Q j).2.2.1 := by
  unfold dF; rw [if_neg (by omega), if_neg (by omega), if_pos (by omega), show (j * 4 + 2) / 4 = j by omega]
theorem dF3 (Q : Nat → T4) (j : Nat) : dF Q (j * 4 + 3) = .int .i32 (Q j).2.2.2 := by
  unfold dF; rw [if_neg (by omega), if_neg (by omega), if_neg (by omega), show (j * 4 + 3) / 4 = j by omega]
theorem rF0 (Q : Nat → T4) (j : Nat) : rF Q (j * 4) = .int .i64 (Q j).1 := by
  unfold rF; rw [if_pos (by omega), show j * 4 / 4 = j by omega]
theorem rF1 (Q : Nat → T4) (j : Nat) : rF Q (j * 4 + 1) = .int .i64 (Q j).2.1 := by
  unfold rF; rw [if_neg (by omega), if_pos (by omega), show (j * 4 + 1) / 4 = j by omega]
theorem rF2 (Q : Nat → T4) (j : Nat) : rF Q (j * 4 + 2) = .int .i64 (Q j).2.2.1 := by
  unfold rF; rw [if_neg (by omega), if_neg (by omega), if_pos (by omega), show (j * 4 + 2) / 4 = j by omega]
theorem rF3 (Q : Nat → T4) (j : Nat) : rF Q (j * 4 + 3) = .int .i32 (Q j).2.2.2 := by
  unfold rF; rw [if_neg (by omega), if_neg (by omega), if_neg (by omega), show (j * 4 + 3) / 4 = j by omega]
theorem eF_one (E : Nat → T3) (i : Nat) : (eF E i).oneCell' = true := by unfold eF; repeat' split
                                                                         all_goals rfl
theorem dF_one (Q : Nat → T4) (i : Nat) : (dF Q i).oneCell' = true := by unfold dF; repeat' split
                                                                         all_goals rfl
theorem rF_one (Q : Nat → T4) (i : Nat) : (rF Q i).oneCell' = true := by unfold rF; repeat' split
                                                                         all_goals rfl
theorem seg3 (f : Nat → Value) (o : Nat) : seg f o 3 = [f o, f (o + 1), f (o + 2)] := rfl
theorem seg4 (f : Nat → Value) (o : Nat) : seg f o 4 = [f o, f (o + 1), f (o + 2), f (o + 3)] := rfl
theorem eF_seg (E : Nat → T3) (j : Nat) : seg (eF E) (j * 3) 3 = [.int .i32 (E j).1, .int .i32 (E j).2.1, .int .i32 (E j).2.2] := by rw [seg3, eF0, eF1, eF2]
theorem dF_seg (Q : Nat → T4) (j : Nat) : seg (dF Q) (j * 4) 4 = [.int .i64 (Q j).1, .int .i64 (Q j).2.1, .int .i32 (Q j).2.2.1, .int .i32 (Q j).2.2.2] := by rw [seg4, dF0, dF1, dF2, dF3]
theorem rF_seg (Q : Nat → T4) (j : Nat) : seg (rF Q) (j * 4) 4 = [.int .i64 (Q j).1, .int .i64 (Q j).2.1, .int .i64 (Q j).2.2.1, .int .i32 (Q j).2.2.2] := by rw [seg4, rF0, rF1, rF2, rF3]
theorem eF_push (E : Nat → T3) (n : Nat) (a b c : Int) (h : E n = (a, b, c)) : seg (eF E) 0 (n * 3) ++ [.int .i32 a, .int .i32 b, .int .i32 c] = seg (eF E) 0 ((n + 1) * 3) := by
  rw [show (n + 1) * 3 = n * 3 + 3 by omega, seg_append, Nat.zero_add, eF_seg, h]
theorem rF_push (Q : Nat → T4) (n : Nat) (a b c d : Int) (h : Q n = (a, b, c, d)) : seg (rF Q) 0 (n * 4) ++ [.int .i64 a, .int .i64 b, .int .i64 c, .int .i32 d] = seg (rF Q) 0 ((n + 1) * 4) := by
  rw [show (n + 1) * 4 = n * 4 + 4 by omega, seg_append, Nat.zero_add, rF_seg, h]

/-- A row of rows of reads. -/
def RowsIn (w : World) (R : Nat) (rows : Nat → Value) (l : Nat → Nat) (D : Nat → Nat → T4) (lo : Nat) : Prop :=
  ∀ t, t < R → ∃ ao c, rows t = .slice ao (l t) c ∧ (ao = none → l t = 0 ∧ c = 0) ∧ Cells w ao (l t * 4) (dF (D t)) ∧ ∀ x, ao = some x → lo ≤ x.block
theorem RowsIn.mono {w w' : World} {R : Nat} {rows : Nat → Value} {l : Nat → Nat} {D : Nat → Nat → T4} {lo : Nat} (h : RowsIn w R rows l D lo) {row : Option Nat} (hg : w.grownBy w' row) (hne : ∀ b, row = some b → b < lo) : RowsIn w' R rows l D lo := by
  intro t ht
  obtain ⟨ao, c, h1, h2, h3, h4⟩ := h t ht
  refine ⟨ao, c, h1, h2, h3.mono hg (fun x hx e => ?_), h4⟩
  have a := hne x.block e.symm
  have b := h4 x hx
  omega
theorem RowsIn.lower {w : World} {R : Nat} {rows : Nat → Value} {l : Nat → Nat} {D : Nat → Nat → T4} {lo lo' : Nat} (h : RowsIn w R rows l D lo) (hl : lo' ≤ lo) : RowsIn w R rows l D lo' := by
  intro t ht
  obtain ⟨ao, c, h1, h2, h3, h4⟩ := h t ht
  exact ⟨ao, c, h1, h2, h3, fun x hx => Nat.le_trans hl (h4 x hx)⟩
/-- One row more. -/
theorem RowsIn.push {w : World} {k : Nat} {rows : Nat → Value} {l : Nat → Nat} {D : Nat → Nat → T4} {lo : Nat} (h : RowsIn w k rows l D lo) (v : Value) {ao : Option Addr} {c : Nat} (hv : v = .slice ao (l k) c)
    (h1 : ao = none → l k = 0 ∧ c = 0) (h2 : Cells w ao (l k * 4) (dF (D k))) (h3 : ∀ x, ao = some x → lo ≤ x.block) : RowsIn w (k + 1) (fun i => if i = k then v else rows i) l D lo := by
  intro t ht
  by_cases e : t = k
  · subst e
    exact ⟨ao, c, by simp [hv], h1, h2, h3⟩
  · obtain ⟨ao', c', g1, g2, g3, g4⟩ := h t (by omega)
    exact ⟨ao', c', by simp [e, g1], g2, g3, g4⟩
end Go.Proofs.Qxb6605286a
