/-
  ARGUMENTS OPENED, MORE KINDS: a slice of integers, a slice of structs of four integers, a slice of such slices.
-/
import Derived.Test.Qxb6605286aRows
import Derived.Test.Qxb6605286aMem2
import Derived.Test.Qxb6605286aOpen
import Derived.Deep.Slices
import Derived.OpenShut
namespace Go.Proofs.Qxb6605286a
open Go.ChangeShapes Go.WideShapes

/-- A SLICE OF INTEGERS. -/
theorem open_plain {H : Type} {enc : TypeId × Value → H} {P : Program} {w : World} {base : Nat} {held : Bool} {t e : Nat} {k : IntKind} {ao : Option Addr} {len cap : Nat} {d : DataW H} {p : List MemPlace}
    (ht : P.underlying t = some (.slice e)) (he : P.underlying e = some (.int k)) (c1 : P.cellsOf e = 1) (hk : (Lit.int k 0).wf = true)
    (h : DataW.Trod enc P w base (fun _ => true) held t (.slice ao len cap) d p) :
    len ≤ maxLen ∧ (ao = none → len = 0 ∧ cap = 0) ∧ ∃ z : Nat → Int, Cells w ao len (fun i => .int k (z i)) ∧ ∀ i, (Lit.int k (z i)).wf = true := by
  obtain ⟨fuel, hf⟩ := h
  rcases Go.Deep.open_slice1 ht c1 hf with ⟨hcs, hx⟩ | ⟨a, len', cap', m, n, V, D, Pl, hcs, _, hl, hm, hmm, hx, hel⟩
  · simp [Value.cells] at hcs
    obtain ⟨rfl, rfl, rfl⟩ := hcs
    exact ⟨Nat.zero_le _, fun _ => ⟨rfl, rfl⟩, fun _ => 0, ⟨fun _ => rfl, fun x hx => by cases hx⟩, fun _ => hk⟩
  · simp [Value.cells] at hcs
    obtain ⟨rfl, rfl, rfl⟩ := hcs
    simp only [if_true] at hmm
    subst hmm
    refine ⟨by omega, (fun h => nomatch h), ?_⟩
    have each : ∀ i, i < len → ∃ z : Int, w.cell? (a.add i) = some (.int k z) ∧ (Lit.int k z).wf = true := by
      intro i hi
      obtain ⟨hc, htr⟩ := hel i (by omega)
      obtain ⟨z, hz, _, hwf⟩ := DataW.trod_int he htr
      refine ⟨z, ?_, hwf⟩
      rw [hc]
      simpa using hz
    obtain ⟨z, hz⟩ := Go.Deep.choose_lt (α := Int) each
    refine ⟨fun i => if i < len then z i else 0, ⟨(fun h => nomatch h), fun x hx i hi => ?_⟩, fun i => ?_⟩
    · cases hx
      simp only [hi, if_true]
      exact (hz i hi).1
    · by_cases hi : i < len
      · simp only [hi, if_true]; exact (hz i hi).2
      · simp only [hi, if_false]; exact hk

/-- FOUR NUMBERS, A CELL EACH. -/
def qF (k0 k1 k2 k3 : IntKind) (Q : Nat → T4) (i : Nat) : Value :=
  if i % 4 = 0 then .int k0 (Q (i / 4)).1 else if i % 4 = 1 then .int k1 (Q (i / 4)).2.1 else if i % 4 = 2 then .int k2 (Q (i / 4)).2.2.1 else .int k3 (Q (i / 4)).2.2.2

/-- A SLICE OF STRUCTS OF FOUR INTEGERS. -/
theorem open_quads {H : Type} {enc : TypeId × Value → H} {P : Program} {w : World} {base : Nat} {held : Bool} {t e : Nat} {f0 f1 f2 f3 : Field} {k0 k1 k2 k3 : IntKind} {ao : Option Addr} {len cap : Nat} {fuel : Nat} {x : DataW H × List MemPlace}
    (ht : P.underlying t = some (.slice e)) (he : P.underlying e = some (.struct #[f0, f1, f2, f3])) (u0 : P.underlying f0.type = some (.int k0)) (u1 : P.underlying f1.type = some (.int k1)) (u2 : P.underlying f2.type = some (.int k2)) (u3 : P.underlying f3.type = some (.int k3))
    (o0 : f0.offset = 0) (o1 : f1.offset = 1) (o2 : f2.offset = 2) (o3 : f3.offset = 3) (ce : P.cellsOf e = 4) (c0 : P.cellsOf f0.type = 1) (c1 : P.cellsOf f1.type = 1) (c2 : P.cellsOf f2.type = 1) (c3 : P.cellsOf f3.type = 1)
    (h : DataW.trod enc P w base (fun _ => true) held fuel t [.slice ao len cap] = some x) :
    len ≤ maxLen ∧ (ao = none → len = 0 ∧ cap = 0) ∧ ∃ Q : Nat → T4, Cells w ao (len * 4) (qF k0 k1 k2 k3 Q) := by
  rcases Go.Deep.open_slice ht h with ⟨hcs, hx⟩ | ⟨a, len', cap', m, n, D, Pl, hcs, _, hl, hm, hmm, hx, hel⟩
  · simp at hcs
    obtain ⟨rfl, rfl, rfl⟩ := hcs
    exact ⟨Nat.zero_le _, fun _ => ⟨rfl, rfl⟩, fun _ => (0, 0, 0, 0), ⟨fun _ => Nat.zero_mul _, fun x hx => by cases hx⟩⟩
  · simp at hcs
    obtain ⟨rfl, rfl, rfl⟩ := hcs
    simp only [if_true] at hmm
    subst hmm
    refine ⟨by omega, (fun h => nomatch h), ?_⟩
    have each : ∀ i, i < len → ∃ q : T4, w.cell? (a.add (i * 4)) = some (.int k0 q.1) ∧ w.cell? (a.add (i * 4 + 1)) = some (.int k1 q.2.1) ∧ w.cell? (a.add (i * 4 + 2)) = some (.int k2 q.2.2.1) ∧ w.cell? (a.add (i * 4 + 3)) = some (.int k3 q.2.2.2) := by
      intro i hi
      obtain ⟨cs, hc, htr⟩ := hel i (by omega)
      rw [ce] at hc
      obtain ⟨_, hlen, hcell⟩ := World.cells?_some hc
      obtain ⟨xs, n', _, _, _, hxl, hxs⟩ := DataW.trod_struct he htr
      have one : ∀ (j : Nat) (f : Field) (k : IntKind), j < 4 → #[f0, f1, f2, f3][j]? = some f → f.offset = j → P.cellsOf f.type = 1 → P.underlying f.type = some (.int k) → ∃ z : Int, w.cell? (a.add (i * 4 + j)) = some (.int k z) := by
        intro j f k hj hf ho hc1 hu
        have hx1 := hxs j f hf
        have hxl' : xs.length = 4 := hxl
        rw [List.getElem?_eq_getElem (by omega), hc1, ho] at hx1
        obtain ⟨z, hz, _, _⟩ := DataW.trod_int hu hx1
        refine ⟨z, ?_⟩
        have h3 := hcell j hj
        rw [Go.Deep.add_add] at h3
        rw [h3]
        have h4 : ((cs.drop j).take 1)[0]? = some (.int k z) := by rw [hz]; rfl
        simpa [List.getElem?_take, List.getElem?_drop] using h4
      obtain ⟨q0, g0⟩ := one 0 f0 k0 (by omega) rfl o0 c0 u0
      obtain ⟨q1, g1⟩ := one 1 f1 k1 (by omega) rfl o1 c1 u1
      obtain ⟨q2, g2⟩ := one 2 f2 k2 (by omega) rfl o2 c2 u2
      obtain ⟨q3, g3⟩ := one 3 f3 k3 (by omega) rfl o3 c3 u3
      exact ⟨(q0, q1, q2, q3), g0, g1, g2, g3⟩
    obtain ⟨Q, hQ⟩ := Go.Deep.choose_lt (α := T4) each
    refine ⟨Q, ⟨(fun h => nomatch h), fun x hx i hi => ?_⟩⟩
    cases hx
    have hd : i / 4 < len := by omega
    obtain ⟨g0, g1, g2, g3⟩ := hQ (i / 4) hd
    unfold qF
    by_cases e0 : i % 4 = 0
    · rw [if_pos e0, ← g0]; congr 2; omega
    rw [if_neg e0]
    by_cases e1 : i % 4 = 1
    · rw [if_pos e1, ← g1]; congr 2; omega
    rw [if_neg e1]
    by_cases e2 : i % 4 = 2
    · rw [if_pos e2, ← g2]; congr 2; omega
    rw [if_neg e2, ← g3]; congr 2; omega

theorem cellsq2 : Try.prog.cellsOf 2 = 1 := by kernel_rfl
theorem cellsq3 : Try.prog.cellsOf 3 = 1 := by kernel_rfl
theorem cellsq21 : Try.prog.cellsOf 21 = 1 := by kernel_rfl
theorem cellsq39 : Try.prog.cellsOf 39 = 1 := by kernel_rfl
theorem cellsq45 : Try.prog.cellsOf 45 = 4 := by kernel_rfl
theorem cellsq47 : Try.prog.cellsOf 47 = 4 := by kernel_rfl

section
variable {H : Type} {enc : TypeId × Value → H} {w : World} {base : Nat} {held : Bool} {ao : Option Addr} {len cap fuel : Nat} {x : DataW H × List MemPlace}
/-- A HISTORY'S ROW OF OPERATIONS. -/
theorem open_ops (h : DataW.trod enc Try.prog w base (fun _ => true) held fuel 39 [.slice ao len cap] = some x) :
    len ≤ maxLen ∧ (ao = none → len = 0 ∧ cap = 0) ∧ ∃ Q : Nat → T4, Cells w ao (len * 4) (dF Q) :=
  open_quads (k0 := .i64) (k1 := .i64) (k2 := .i32) (k3 := .i32) Try.underlying39 Try.underlying47 Try.underlying2 Try.underlying2 Try.underlying21 Try.underlying21 rfl rfl rfl rfl cellsq47 cellsq2 cellsq2 cellsq21 cellsq21 h
/-- THE REASONS. -/
theorem open_reasons (h : DataW.trod enc Try.prog w base (fun _ => true) held fuel 38 [.slice ao len cap] = some x) :
    len ≤ maxLen ∧ (ao = none → len = 0 ∧ cap = 0) ∧ ∃ Q : Nat → T4, Cells w ao (len * 4) (rF Q) :=
  open_quads (k0 := .i64) (k1 := .i64) (k2 := .i64) (k3 := .i32) Try.underlying38 Try.underlying45 Try.underlying3 Try.underlying2 Try.underlying2 Try.underlying21 rfl rfl rfl rfl cellsq45 cellsq3 cellsq2 cellsq2 cellsq21 h

/-- ALL THE ROWS. -/
theorem open_rows (h : DataW.trod enc Try.prog w base (fun _ => true) held fuel 37 [.slice ao len cap] = some x) :
    len ≤ maxLen ∧ (ao = none → len = 0 ∧ cap = 0) ∧ ∃ (rows : Nat → Value) (l : Nat → Nat) (D : Nat → Nat → T4), Cells w ao len rows ∧ RowsIn w len rows l D 0 ∧ ∀ t, l t ≤ 9223372036854775807 := by
  rcases Go.Deep.open_slice1 Try.underlying37 cellsq39 h with ⟨hcs, hx⟩ | ⟨a, len', cap', m, n, V, DD, Pl, hcs, _, hl, hm, hmm, hx, hel⟩
  · simp at hcs
    obtain ⟨rfl, rfl, rfl⟩ := hcs
    exact ⟨Nat.zero_le _, fun _ => ⟨rfl, rfl⟩, fun _ => .slice none 0 0, fun _ => 0, fun _ _ => (0, 0, 0, 0), ⟨fun _ => rfl, fun x hx => by cases hx⟩, fun t ht => by omega, fun _ => Nat.zero_le _⟩
  · simp at hcs
    obtain ⟨rfl, rfl, rfl⟩ := hcs
    simp only [if_true] at hmm
    subst hmm
    have e0 : maxLen = 9223372036854775807 := by decide
    refine ⟨by omega, (fun h => nomatch h), ?_⟩
    have each : ∀ i, i < len → ∃ y : Nat × (Nat → T4), y.1 ≤ 9223372036854775807 ∧ ∃ (bo : Option Addr) (c : Nat), V i = .slice bo y.1 c ∧ (bo = none → y.1 = 0 ∧ c = 0) ∧ Cells w bo (y.1 * 4) (dF y.2) := by
      intro i hi
      obtain ⟨hc, htr⟩ := hel i (by omega)
      have form : ∃ bo l c, V i = .slice bo l c := by
        rcases Go.Deep.open_slice Try.underlying39 htr with ⟨hcs, _⟩ | ⟨b, l, c, _, _, _, _, hcs, _⟩
        · simp at hcs; exact ⟨_, _, _, hcs⟩
        · simp at hcs; exact ⟨_, _, _, hcs⟩
      obtain ⟨bo, l, c, hv⟩ := form
      rw [hv] at htr
      obtain ⟨hl1, hnil, Q, hQ⟩ := open_ops htr
      exact ⟨(l, Q), by rw [← e0]; exact hl1, bo, c, hv, hnil, hQ⟩
    obtain ⟨y, hy⟩ := Go.Deep.choose_lt (α := Nat × (Nat → T4)) each
    refine ⟨V, fun t => if t < len then (y t).1 else 0, fun t => (y t).2, ⟨(fun h => nomatch h), fun x hx i hi => ?_⟩, fun t ht => ?_, fun t => ?_⟩
    · cases hx
      exact (hel i (by omega)).1
    · obtain ⟨_, bo, c, hv, hnil, hQ⟩ := hy t ht
      simp only [ht, if_true]
      exact ⟨bo, c, hv, hnil, hQ, fun _ _ => Nat.zero_le _⟩
    · by_cases ht : t < len
      · simp only [ht, if_true]; exact (hy t ht).1
      · simp only [ht, if_false]; omega
end

/-- TRIPLES OUT OF A FLAT ROW. -/
theorem eF_of (z : Nat → Int) : (fun i => Value.int .i32 (z i)) = eF (fun j => (z (j * 3), z (j * 3 + 1), z (j * 3 + 2))) := by
  funext i
  unfold eF
  by_cases e0 : i % 3 = 0
  · rw [if_pos e0]; dsimp only; rw [show i / 3 * 3 = i by omega]
  rw [if_neg e0]
  by_cases e1 : i % 3 = 1
  · rw [if_pos e1]; dsimp only; rw [show i / 3 * 3 + 1 = i by omega]
  rw [if_neg e1]; dsimp only; rw [show i / 3 * 3 + 2 = i by omega]
end Go.Proofs.Qxb6605286a
