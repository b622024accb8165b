/-
  THE MEMORY OF sort, AS ONE STATEMENT, and what each of its steps does to it: lemmas outside the walk.
-/
import Derived.Test.Qxb6605286aSortP
namespace Go.Proofs.Qxb6605286a
open Go.RowKit

theorem made_seg (z : Value) (n : Nat) : (madeCells #[z] n).toList = seg (fun _ => z) 0 n := by
  rw [toList_madeCells_one]
  apply List.ext_getElem?
  intro j
  by_cases hj : j < n
  · rw [seg_at _ _ _ _ hj]; simp [hj]
  · rw [seg_out _ _ _ _ (by omega)]; simp; omega
theorem flat_len (z : Nat → Int) (l : List Nat) : (flat z l).length = l.length * 3 := by
  induction l with
  | nil => rfl
  | cons a l ih =>
    have : flat z (a :: l) = [.int .i32 (z (a * 3)), .int .i32 (z (a * 3 + 1)), .int .i32 (z (a * 3 + 2))] ++ flat z l := rfl
    rw [this, List.length_append, ih]; simp; omega
theorem flat_at (z : Nat → Int) : ∀ (l : List Nat) (c : Nat) (h : c < l.length) (i : Nat), i < 3 → (flat z l)[c * 3 + i]? = some (.int .i32 (z (l[c] * 3 + i)))
  | a :: l, 0, h, i, hi => by
    rcases (show i = 0 ∨ i = 1 ∨ i = 2 by omega) with rfl | rfl | rfl <;> rfl
  | a :: l, c + 1, h, i, hi => by
    have e : flat z (a :: l) = [.int .i32 (z (a * 3)), .int .i32 (z (a * 3 + 1)), .int .i32 (z (a * 3 + 2))] ++ flat z l := rfl
    rw [e, List.getElem?_append_right (by simp; omega), show (c + 1) * 3 + i - [Value.int .i32 (z (a * 3)), .int .i32 (z (a * 3 + 1)), .int .i32 (z (a * 3 + 2))].length = c * 3 + i by simp; omega]
    rw [flat_at z l c (by simpa using h) i hi]
    rfl

/-- in: how many of the edges that answer p lead to each. -/
def inF (t : Nat → Nat) (p : Nat → Bool) (m : Nat) (v : Nat) : Value := .int .i32 (cntB (fun j => decide (t j = v) && p j) m : Int)
theorem inF_step {t : Nat → Nat} {k v : Nat} (h : t k = v) (n : Nat) : seg (fun u => if u = v then Value.int .i32 ((cntB (fun j => decide (t j = v) && true) k : Int) + 1) else inF t (fun _ => true) k u) 0 n = seg (inF t (fun _ => true) (k + 1)) 0 n := by
  refine seg_congr fun u _ => ?_
  rw [Nat.zero_add]
  unfold inF
  by_cases e : u = v
  · subst e
    rw [if_pos rfl, cntB]; simp [h]
  · rw [if_neg e, cntB]
    have : ¬ t k = u := fun q => e (q.symm.trans h)
    simp [this]
theorem inF_dec {t : Nat → Nat} {p q : Nat → Bool} {m j0 : Nat} (hj : j0 < m) (hp : p j0 = false) (hq : ∀ j, q j = (p j || decide (j = j0))) (n : Nat) :
    seg (fun u => if u = t j0 then Value.int .i32 ((cntB (fun j => decide (t j = t j0) && !p j) m : Int) - 1) else inF t (fun j => !p j) m u) 0 n = seg (inF t (fun j => !q j) m) 0 n ∧
    ((cntB (fun j => decide (t j = t j0) && !q j) m : Nat) : Int) = (cntB (fun j => decide (t j = t j0) && !p j) m : Int) - 1 := by
  have hd := cntB_drop (p := fun j => decide (t j = t j0) && !p j) (q := fun j => decide (t j = t j0) && !q j) hj (by simp [hp]) (by simp [hq]) (fun j _ hne => by simp [hq, hne])
  refine ⟨seg_congr fun u _ => ?_, by omega⟩
  rw [Nat.zero_add]
  unfold inF
  dsimp only
  by_cases e : u = t j0
  · subst e
    rw [if_pos rfl]
    congr 1
    omega
  · rw [if_neg e]
    congr 2
    refine cntB_congr fun j _ => ?_
    rw [hq]
    by_cases e2 : j = j0
    · subst e2
      have : ¬ t j = u := fun q => e q.symm
      simp [this]
    · simp [e2]

theorem Adj.kept {w w' : World} {g n : Nat} {rows : Nat → Value} {z : Nat → Int} {L : Nat → List Nat} {row : Option Nat} (h : Adj w g n rows z L) (hg : w.grownBy w' row) (h1 : some g ≠ row) (h2 : ∀ u, u < n → (rows u).ownBlock = none ∨ (rows u).ownBlock ≠ row) : Adj w' g n rows z L :=
  ⟨h.1.kept hg (.inr (by simpa [Value.ownBlock] using h1)), fun u hu => (h.2.1 u hu).kept hg (h2 u hu), h.2.2⟩

/-- All of sort's memory. 'gi': in; 'go': out; 'ov': order. -/
structure St (w wr : World) (gi go n m : Nat) (z : Nat → Int) (f t : Nat → Nat) (rows : Nat → Value) (ov : Value) (L : List Nat) (p : Nat → Bool) : Prop where
  inn : wr.ownsRow gi 21 1 (.slice (some ⟨gi, 0, none⟩) n n) n (seg (inF t (fun j => !p j) m) 0 n)
  ord : wr.ownsRow w.heap.size 21 1 ov L.length (L.map fun (x : Nat) => Value.int .i32 (x : Int))
  adj : Adj wr go n rows z (outs f m)
  sep : ∀ g, ov.ownBlock = some g → g ≠ gi ∧ g ≠ go ∧ ∀ u, u < n → (rows u).ownBlock ≠ some g
  lt : w.heap.size ≤ gi ∧ gi < go
  gr : w.grownBy wr none

section
variable {w wr : World} {gi go n m : Nat} {z : Nat → Int} {f t : Nat → Nat} {rows : Nat → Value} {ov : Value} {L : List Nat} {p : Nat → Bool}

theorem St.grow {wx : World} (h : St w wr gi go n m z f t rows ov L p) (hg : wr.grownBy wx none) : St w wx gi go n m z f t rows ov L p :=
  ⟨h.inn.kept hg (.inr (by simp [Value.ownBlock])), h.ord.kept hg (by cases ov.ownBlock <;> simp), h.adj.kept hg (by simp) (fun u _ => by cases (rows u).ownBlock <;> simp), h.sep, h.lt, grown_trans h.gr hg⟩
theorem St.alloc (h : St w wr gi go n m z f t rows ov L p) (o : Obj) : St w (wr.alloc o) gi go n m z f t rows ov L p := h.grow (World.grownBy_alloc wr o none)
theorem St.giw (h : St w wr gi go n m z f t rows ov L p) : gi < wr.heap.size := (h.inn.lt gi rfl).2
theorem St.gow (h : St w wr gi go n m z f t rows ov L p) : go < wr.heap.size := (h.adj.1.lt go rfl).2
/-- in[v] is written. -/
theorem St.dec (h : St w wr gi go n m z f t rows ov L p) {q : Nat → Bool} {j0 : Nat} (hj : j0 < m) (hp : p j0 = false) (hq : ∀ j, q j = (p j || decide (j = j0))) :
    St w (wr.setCell ⟨gi, t j0, none⟩ (.int .i32 ((cntB (fun j => decide (t j = t j0) && !p j) m : Int) - 1))) gi go n m z f t rows ov L q := by
  obtain ⟨s1, s2⟩ := h.inn.stored (t j0) (.int .i32 ((cntB (fun j => decide (t j = t j0) && !p j) m : Int) - 1))
  rw [seg_set, (inF_dec hj hp hq n).1] at s1
  refine ⟨s1, h.ord.kept s2 ?_, h.adj.kept s2 (by have := h.lt; intro e; injection e; omega) (fun u hu => ?_), h.sep, h.lt, grown_own h.gr s2 h.lt.1⟩
  · cases ho : ov.ownBlock with
    | none => exact .inl rfl
    | some g => right; intro e; injection e with e; exact (h.sep g ho).1 e
  · cases ho : (rows u).ownBlock with
    | none => exact .inl rfl
    | some g =>
      right; intro e; injection e with e
      have := (h.adj.2.1 u hu).lt g ho
      have := h.lt
      omega
/-- order grows by one. -/
theorem St.push (h : St w wr gi go n m z f t rows ov L p) {w1 : World} {g cap v : Nat} {o : Obj} (hown : w1.ownsRow w.heap.size 21 1 (.slice (some ⟨g, 0, none⟩) (L.length + 1) cap) (L.length + 1) ((L.map fun (x : Nat) => Value.int .i32 (x : Int)) ++ [.int .i32 (v : Int)]))
    (hgrow : (wr.alloc o).grownBy w1 ov.ownBlock) (hat : ov.ownBlock = some g ∨ g = wr.heap.size + 1) : St w w1 gi go n m z f t rows (.slice (some ⟨g, 0, none⟩) (L.length + 1) cap) (L ++ [v]) p := by
  have hg : wr.grownBy w1 ov.ownBlock := grown_alloc hgrow
  have hov : ∀ b, ov.ownBlock = some b → w.heap.size ≤ b ∧ b < wr.heap.size := fun b hb => h.ord.lt b hb
  refine ⟨h.inn.kept hg ?_, by rw [List.length_append, List.map_append]; exact hown, h.adj.kept hg ?_ (fun u hu => ?_), ?_, h.lt, grown_own' h.gr hg fun b hb => (hov b hb).1⟩
  · right
    intro e
    have e' : ov.ownBlock = some gi := e.symm
    exact (h.sep gi e').1 rfl
  · intro e
    exact (h.sep go e.symm).2.1 rfl
  · cases ho : (rows u).ownBlock with
    | none => exact .inl rfl
    | some b =>
      right
      intro e
      exact (h.sep b e.symm).2.2 u hu ho
  · intro b hb
    have eb : b = g := (Option.some.inj (show some g = some b from hb)).symm
    subst eb
    rcases hat with q | q
    · exact h.sep b q
    · have h1 := h.giw
      have h2 := h.gow
      refine ⟨by omega, by omega, fun u hu e => ?_⟩
      have := (h.adj.2.1 u hu).lt b e
      omega
end

theorem own_form {w : World} {base : Nat} {e : TypeId} {size : Nat} {v : Value} {n : Nat} {xs : List Value} (h : w.ownsRow base e size v n xs) : ∃ ao c, v = .slice ao n c := by
  rcases h.2 with ⟨e1, rfl⟩ | ⟨g, cap, cur, e1, _⟩
  · exact ⟨_, _, e1⟩
  · exact ⟨_, _, e1⟩
theorem own_base {w : World} {base base' : Nat} {e : TypeId} {size : Nat} {v : Value} {n : Nat} {xs : List Value} (h : w.ownsRow base e size v n xs) (hb : base' ≤ base) : w.ownsRow base' e size v n xs := by
  refine ⟨h.1, ?_⟩
  rcases h.2 with q | ⟨g, cap, cur, e1, e2, r⟩
  · exact .inl q
  · exact .inr ⟨g, cap, cur, e1, by omega, r⟩
/-- A cell of an owned row that is not empty. -/
theorem own_cell {w : World} {base : Nat} {e : TypeId} {size : Nat} {ao : Option Addr} {n c : Nat} {xs : List Value} (h : w.ownsRow base e size (.slice ao n c) n xs) (hn : 0 < n) : ∃ g, ao = some ⟨g, 0, none⟩ ∧ g < w.heap.size ∧ base ≤ g ∧ ∀ j, j < n * size → w.cell? ⟨g, j, none⟩ = xs[j]? := by
  rcases h.2 with ⟨_, e2⟩ | ⟨g, cap, cur, e1, e2, e3, _⟩
  · omega
  · injection e1 with e1 _ e4
    subst e1; subst e4
    exact ⟨g, rfl, lt_of_block e3, e2, fun j hj => h.cellAt j hj⟩

section
variable {n m : Nat} {f t : Nat → Nat} {L C : List Nat} {i c u j0 : Nat} {p q : Nat → Bool}

theorem step_q (h : Inv n m f t L C i c) (hi : i < L.length) (hu : L[i] = u) (hc : c < (outs f m u).length) (hj : (outs f m u)[c] = j0) (hp : ∀ j, p j = true ↔ Proc m f L i c j) :
    j0 < m ∧ f j0 = u ∧ p j0 = false ∧ ∀ j, (p j || decide (j = j0)) = true ↔ Proc m f L i (c + 1) j := by
  subst hu; subst hj
  have hm := mem_outs.1 (List.getElem_mem hc)
  refine ⟨hm.1, hm.2, ?_, fun j => ?_⟩
  · cases e : p ((outs f m L[i])[c]) with
    | false => rfl
    | true => exact absurd ((hp _).1 e) (not_proc h.i2 hi hc)
  · rw [proc_succ h.i2 hi hc, ← hp j]
    simp
theorem step_wait (h : Inv n m f t L C i c) (hi : i < L.length) (hu : L[i] = u) (hc : c < (outs f m u).length) (hj : (outs f m u)[c] = j0) (hq : ∀ j, q j = true ↔ Proc m f L i (c + 1) j) (hx : cntB (fun j => decide (t j = t j0) && !q j) m ≠ 0) : Inv n m f t L C i (c + 1) := by
  subst hu; subst hj
  refine inv_wait h hi hc fun hall => hx (cntB_zero.2 fun j hj => ?_)
  by_cases e : t j = t ((outs f m L[i])[c])
  · simp [(hq j).2 (hall j hj e)]
  · simp [e]
theorem step_list (h : Inv n m f t L C i c) (hi : i < L.length) (hu : L[i] = u) (hc : c < (outs f m u).length) (hj : (outs f m u)[c] = j0) (htn : t j0 < n) (hq : ∀ j, q j = true ↔ Proc m f L i (c + 1) j) (hx : cntB (fun j => decide (t j = t j0) && !q j) m = 0) :
    Inv n m f t (L ++ [t j0]) (C ++ [j0]) i (c + 1) ∧ ∀ j, q j = true ↔ Proc m f (L ++ [t j0]) i (c + 1) j := by
  subst hu; subst hj
  have hm := mem_outs.1 (List.getElem_mem hc)
  have hall : ∀ j, j < m → t j = t ((outs f m L[i])[c]) → Proc m f L i (c + 1) j := fun j hj e => by
    have := cntB_zero.1 hx j hj
    simp [e] at this
    exact (hq j).1 this
  have hv : t ((outs f m L[i])[c]) ∉ L := fun hL => not_proc h.i2 hi hc ((h.i5 _ htn).1 hL _ hm.1 rfl)
  exact ⟨inv_list h hi hc htn hall, fun j => by rw [proc_append hi hv]; exact hq j⟩
theorem step_next (h : Inv n m f t L C i (outs f m u).length) (hi : i < L.length) (hu : L[i] = u) (hp : ∀ j, p j = true ↔ Proc m f L i (outs f m u).length j) : Inv n m f t L C (i + 1) 0 ∧ ∃ p' : Nat → Bool, (∀ j, p' j = true ↔ Proc m f L (i + 1) 0 j) ∧ ∀ j, j < m → p' j = p j := by
  subst hu
  have h' := inv_next hi h
  refine ⟨h', ?_⟩
  have key : ∀ j, j < m → (Proc m f L (i + 1) 0 j ↔ Proc m f L i (outs f m L[i]).length j) := by
    intro j hj
    unfold Proc
    constructor
    · rintro ⟨a, b | ⟨_, b⟩⟩
      · by_cases e : idx L (f j) = i
        · refine ⟨a, .inr ⟨e, ?_⟩⟩
          have e2 : f j = L[i] := idx_inj a (List.getElem_mem hi) (by rw [e, idx_get h.i2 hi])
          rw [e2, List.take_of_length_le (Nat.le_refl _)]
          exact mem_outs.2 ⟨hj, e2⟩
        · exact ⟨a, .inl (by omega)⟩
      · simp at b
    · rintro ⟨a, b | ⟨b, _⟩⟩
      · exact ⟨a, .inl (by omega)⟩
      · exact ⟨a, .inl (by omega)⟩
  classical
  refine ⟨fun j => decide (Proc m f L (i + 1) 0 j), fun j => by simp, fun j hj => ?_⟩
  rw [Bool.eq_iff_iff, hp j, ← key j hj]
  simp
end
theorem St.congr {w wr : World} {gi go n m : Nat} {z : Nat → Int} {f t : Nat → Nat} {rows : Nat → Value} {ov : Value} {L : List Nat} {p q : Nat → Bool} (h : St w wr gi go n m z f t rows ov L p) (hq : ∀ j, j < m → q j = p j) : St w wr gi go n m z f t rows ov L q :=
  ⟨by rw [seg_congr (f := inF t (fun j => !q j) m) (g := inF t (fun j => !p j) m) (fun v _ => by
        unfold inF; congr 2; exact cntB_congr fun j hj => by simp only [hq j hj])]; exact h.inn, h.ord, h.adj, h.sep, h.lt, h.gr⟩
end Go.Proofs.Qxb6605286a
