/-
  ARGUMENTS OPENED: a slice of arrays of integers (nil or not), in one word: its cells by one index.
-/
import Derived.Test.Qxb6605286aMem
import Derived.Deep.Slices
import Derived.OpenShut
namespace Go.Proofs.Qxb6605286a
open Go.ChangeShapes Go.WideShapes

/-- A SLICE OF ARRAYS OF 'q' INTEGERS. -/
theorem open_arrs {H : Type} {enc : TypeId × Value → H} {P : Program} {w : World} {base : Nat} {held : Bool} {t e e2 q : Nat} {k : IntKind} {ao : Option Addr} {len cap : Nat} {d : DataW H} {p : List MemPlace}
    (ht : P.underlying t = some (.slice e)) (he : P.underlying e = some (.array q e2)) (h2 : P.underlying e2 = some (.int k)) (c1 : P.cellsOf e = q) (c2 : P.cellsOf e2 = 1) (hk : (Lit.int k 0).wf = true) (hq : 0 < q)
    (h : DataW.Trod enc P w base (fun _ => true) held t (.slice ao len cap) d p) :
    len ≤ maxLen ∧ (ao = none → len = 0 ∧ cap = 0) ∧ ∃ z : Nat → Int, Cells w ao (len * q) (fun i => .int k (z i)) ∧ ∀ i, (Lit.int k (z i)).wf = true := by
  obtain ⟨fuel, hf⟩ := h
  rcases Go.Deep.open_slice ht hf with ⟨hcs, hx⟩ | ⟨a, len', cap', m, n, D, Pl, hcs, _, hl, hm, hmm, hx, hel⟩
  · simp [Value.cells] at hcs
    obtain ⟨rfl, rfl, rfl⟩ := hcs
    exact ⟨Nat.zero_le _, fun _ => ⟨rfl, rfl⟩, fun _ => 0, ⟨fun _ => Nat.zero_mul _, fun x hx => by cases hx⟩, fun _ => hk⟩
  · simp [Value.cells] at hcs
    obtain ⟨rfl, rfl, rfl⟩ := hcs
    simp only [if_true] at hmm
    subst hmm
    refine ⟨by omega, (fun h => nomatch h), ?_⟩
    have each : ∀ i, i < len * q → ∃ z : Int, w.cell? (a.add i) = some (.int k z) ∧ (Lit.int k z).wf = true := by
      intro i hi
      have hd : i / q < len := Nat.div_lt_of_lt_mul (by rw [Nat.mul_comm]; exact hi)
      have hr : i % q < q := Nat.mod_lt _ hq
      obtain ⟨cs, hc, htr⟩ := hel (i / q) (by omega)
      rw [c1] at hc
      obtain ⟨_, hlen, hcell⟩ := World.cells?_some hc
      obtain ⟨xs, m', rfl, _, _, hxl, hxs⟩ := DataW.trod_array he htr
      have hx1 := hxs (i % q) hr
      rw [List.getElem?_eq_getElem (by omega), c2, Nat.mul_one] at hx1
      obtain ⟨z, hz, _, hwf⟩ := DataW.trod_int h2 hx1
      refine ⟨z, ?_, hwf⟩
      have h3 := hcell (i % q) hr
      rw [Go.Deep.add_add, Nat.mul_comm, Nat.div_add_mod] at h3
      rw [h3]
      have h4 : ((cs.drop (i % q)).take 1)[0]? = some (.int k z) := by rw [hz]; rfl
      simpa [List.getElem?_take, List.getElem?_drop] using h4
    obtain ⟨z, hz⟩ := Go.Deep.choose_lt (α := Int) each
    refine ⟨fun i => if i < len * q then z i else 0, ⟨(fun h => nomatch h), fun x hx i hi => ?_⟩, fun i => ?_⟩
    · cases hx
      simp only [hi, if_true]
      exact (hz i hi).1
    · by_cases hi : i < len * q
      · simp only [hi, if_true]; exact (hz i hi).2
      · simp only [hi, if_false]; exact hk
end Go.Proofs.Qxb6605286a
