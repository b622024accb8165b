/-
  addDependencies: the plain answer, no Go in sight.
-/
import Derived.WalkKit
namespace Go.Proofs.Qxb6605286a

/-- The transactions that follow one of their own session. -/
def same (s : Nat → Int) (t : Nat) : Bool := decide (0 < t ∧ s (t - 1) = s t)
def TL (s : Nat → Int) (n : Nat) : List Nat := (List.range n).filter (same s)
theorem TL_zero (s : Nat → Int) : TL s 0 = [] := rfl
theorem TL_yes {s : Nat → Int} {t : Nat} (h : same s t = true) : TL s (t + 1) = TL s t ++ [t] := by
  unfold TL; rw [List.range_succ, List.filter_append]; simp [h]
theorem TL_no {s : Nat → Int} {t : Nat} (h : same s t = false) : TL s (t + 1) = TL s t := by
  unfold TL; rw [List.range_succ, List.filter_append]; simp [h]
theorem TL_le (s : Nat → Int) (n : Nat) : (TL s n).length ≤ n := by
  unfold TL
  have := List.length_filter_le (same s) (List.range n)
  simpa using this
theorem TL_pre (s : Nat → Int) {t n : Nat} (h : t ≤ n) : ∃ r, TL s n = TL s t ++ r := by
  unfold TL
  have e := @List.range_add t (n - t)
  rw [show t + (n - t) = n by omega] at e
  rw [e, List.filter_append]
  exact ⟨_, rfl⟩
theorem TL_get {s : Nat → Int} {t n : Nat} (h : same s t = true) (ht : t < n) : (TL s n)[(TL s t).length]? = some t := by
  obtain ⟨r, hr⟩ := TL_pre s (show t + 1 ≤ n from ht)
  rw [hr, TL_yes h, List.append_assoc, List.getElem?_append_right (Nat.le_refl _)]
  simp

/-- The first reads of each writer. -/
def newB (f : Nat → Int) (i : Nat) : Bool := decide (∀ j, j < i → f j ≠ f i)
def firsts (f : Nat → Int) (l : Nat) : List Nat := (List.range l).filter (newB f)
theorem firsts_zero (f : Nat → Int) : firsts f 0 = [] := rfl
theorem firsts_yes {f : Nat → Int} {i : Nat} (h : newB f i = true) : firsts f (i + 1) = firsts f i ++ [i] := by
  unfold firsts; rw [List.range_succ, List.filter_append]; simp [h]
theorem firsts_no {f : Nat → Int} {i : Nat} (h : newB f i = false) : firsts f (i + 1) = firsts f i := by
  unfold firsts; rw [List.range_succ, List.filter_append]; simp [h]
theorem firsts_le (f : Nat → Int) (l : Nat) : (firsts f l).length ≤ l := by
  unfold firsts
  have := List.length_filter_le (newB f) (List.range l)
  simpa using this
theorem firsts_pre (f : Nat → Int) {i l : Nat} (h : i ≤ l) : ∃ r, firsts f l = firsts f i ++ r := by
  unfold firsts
  have e := @List.range_add i (l - i)
  rw [show i + (l - i) = l by omega] at e
  rw [e, List.filter_append]
  exact ⟨_, rfl⟩
theorem firsts_mem {f : Nat → Int} {l i : Nat} (h : i ∈ firsts f l) : i < l ∧ ∀ j, j < i → f j ≠ f i := by
  unfold firsts at h
  rw [List.mem_filter] at h
  exact ⟨List.mem_range.1 h.1, of_decide_eq_true h.2⟩
/-- Every read's writer has a first read. -/
theorem firsts_has (f : Nat → Int) (l i : Nat) (h : i < l) : ∃ j, j ∈ firsts f l ∧ j ≤ i ∧ f j = f i := by
  induction i using Nat.strongRecOn with
  | _ i ih =>
    by_cases hn : newB f i = true
    · exact ⟨i, by unfold firsts; rw [List.mem_filter]; exact ⟨List.mem_range.2 h, hn⟩, Nat.le_refl _, rfl⟩
    · have : ∃ j, j < i ∧ f j = f i := by
        apply Classical.byContradiction
        intro hno
        exact hn (decide_eq_true fun j hj e => hno ⟨j, hj, e⟩)
      obtain ⟨j, hj, e⟩ := this
      obtain ⟨j', h1, h2, h3⟩ := ih j hj (by omega)
      exact ⟨j', h1, by omega, h3.trans e⟩
/-- What Contains asks. -/
theorem newB_contains (f : Nat → Int) (i : Nat) : newB f i = !decide (f i ∈ (firsts f i).map f) := by
  rw [Bool.eq_iff_iff]
  simp only [newB, decide_eq_true_eq, Bool.not_eq_true', decide_eq_false_iff_not, List.mem_map]
  constructor
  · intro h ⟨j, hj, e⟩
    exact h j (firsts_mem hj).1 e
  · intro h j hj e
    obtain ⟨j', h1, _, h3⟩ := firsts_has f i j hj
    exact h ⟨j', h1, h3.trans e⟩
theorem firsts_sorted (f : Nat → Int) (l : Nat) : (firsts f l).Pairwise (· < ·) := by
  unfold firsts
  exact List.Pairwise.filter _ List.pairwise_lt_range

/-- All read edges: (reader, place of the read). -/
def RL (f : Nat → Nat → Int) (l : Nat → Nat) : Nat → List (Nat × Nat)
  | 0 => []
  | t + 1 => RL f l t ++ (firsts (f t) (l t)).map fun i => (t, i)
def tot (l : Nat → Nat) : Nat → Nat
  | 0 => 0
  | t + 1 => tot l t + l t
theorem RL_le (f : Nat → Nat → Int) (l : Nat → Nat) (R : Nat) : (RL f l R).length ≤ tot l R := by
  induction R with
  | zero => exact Nat.le_refl _
  | succ R ih =>
    have := firsts_le (f R) (l R)
    simp only [RL, tot, List.length_append, List.length_map]
    omega
theorem tot_mono (l : Nat → Nat) {t R : Nat} (h : t ≤ R) : tot l t ≤ tot l R := by
  induction R with
  | zero => obtain rfl : t = 0 := by omega
            exact Nat.le_refl _
  | succ R ih =>
    by_cases e : t = R + 1
    · rw [e]; exact Nat.le_refl _
    · have := ih (by omega)
      simp only [tot]; omega
theorem RL_pre (f : Nat → Nat → Int) (l : Nat → Nat) {t R : Nat} (h : t ≤ R) : ∃ r, RL f l R = RL f l t ++ r ∧ ∀ x ∈ r, t ≤ x.1 := by
  induction R with
  | zero => obtain rfl : t = 0 := by omega
            exact ⟨[], by simp, by simp⟩
  | succ R ih =>
    by_cases e : t = R + 1
    · subst e; exact ⟨[], by simp, by simp⟩
    · obtain ⟨r, h1, h2⟩ := ih (by omega)
      refine ⟨r ++ (firsts (f R) (l R)).map fun i => (R, i), by rw [RL, h1, List.append_assoc], fun x hx => ?_⟩
      rcases List.mem_append.1 hx with hx | hx
      · exact h2 x hx
      · obtain ⟨i, _, rfl⟩ := List.mem_map.1 hx
        show t ≤ R
        omega
theorem RL_len (f : Nat → Nat → Int) (l : Nat → Nat) (t : Nat) : (RL f l (t + 1)).length = (RL f l t).length + (firsts (f t) (l t)).length := by simp [RL]
theorem RL_mono (f : Nat → Nat → Int) (l : Nat → Nat) {t R : Nat} (h : t ≤ R) : (RL f l t).length ≤ (RL f l R).length := by
  obtain ⟨r, e, _⟩ := RL_pre f l h
  rw [e, List.length_append]; omega
/-- The c-th first read of transaction t. -/
theorem RL_at (f : Nat → Nat → Int) (l : Nat → Nat) {t R c i : Nat} (ht : t < R) (h : (firsts (f t) (l t))[c]? = some i) : (RL f l R)[(RL f l t).length + c]? = some (t, i) := by
  obtain ⟨r, e, _⟩ := RL_pre f l (show t + 1 ≤ R from ht)
  have hc : c < (firsts (f t) (l t)).length := (List.getElem?_eq_some_iff.1 h).1
  rw [e, RL, List.append_assoc, List.getElem?_append_right (by omega), Nat.add_sub_cancel_left, List.getElem?_append_left (by simpa using hc)]
  simp [h]
theorem RL_get (f : Nat → Nat → Int) (l : Nat → Nat) {t R i : Nat} (ht : t < R) (hi : i < l t) (h : newB (f t) i = true) : (RL f l R)[(RL f l t).length + (firsts (f t) i).length]? = some (t, i) := by
  refine RL_at f l ht ?_
  obtain ⟨r, e⟩ := firsts_pre (f t) (show i + 1 ≤ l t from hi)
  rw [e, firsts_yes h, List.append_assoc, List.getElem?_append_right (Nat.le_refl _)]
  simp
theorem RL_next (f : Nat → Nat → Int) (l : Nat → Nat) {t R : Nat} {x : Nat × Nat} (ht : t < R) (h : (RL f l R)[(RL f l (t + 1)).length]? = some x) : t < x.1 := by
  obtain ⟨r, e, hr⟩ := RL_pre f l (show t + 1 ≤ R from ht)
  rw [e, List.getElem?_append_right (Nat.le_refl _), Nat.sub_self] at h
  exact hr x (List.mem_of_getElem? h)

/-! ### The final edges and reasons, by index -/
abbrev T3 := Int × Int × Int
abbrev T4 := Int × Int × Int × Int
/-- The session edge of number j. -/
def sessE (s : Nat → Int) (n j : Nat) : T3 := ((((TL s n).getD j 0 : Nat) : Int) - 1, ((TL s n).getD j 0 : Nat), 0)
/-- The read edge of number q. -/
def readE (D : Nat → Nat → T4) (l : Nat → Nat) (R r q : Nat) : T3 :=
  let p := (RL (fun t i => (D t i).2.2.1) l R).getD q (0, 0)
  ((D p.1 p.2).2.2.1, p.1, (r + q : Nat))
def readR (D : Nat → Nat → T4) (l : Nat → Nat) (R q : Nat) : T4 :=
  let p := (RL (fun t i => (D t i).2.2.1) l R).getD q (0, 0)
  (1, (D p.1 p.2).1, (D p.1 p.2).2.1, 0)
def endE (E : Nat → T3) (s : Nat → Int) (D : Nat → Nat → T4) (l : Nat → Nat) (m n R r : Nat) (j : Nat) : T3 :=
  if j < m then E j else if j < m + (TL s n).length then sessE s n (j - m) else readE D l R r (j - (m + (TL s n).length))
def endR (Q : Nat → T4) (D : Nat → Nat → T4) (l : Nat → Nat) (R r : Nat) (j : Nat) : T4 :=
  if j < r then Q j else readR D l R (j - r)
section
variable {E : Nat → T3} {s : Nat → Int} {Q : Nat → T4} {D : Nat → Nat → T4} {l : Nat → Nat} {m n R r : Nat}
theorem endE_old {j : Nat} (h : j < m) : endE E s D l m n R r j = E j := by unfold endE; rw [if_pos h]
theorem endR_old {j : Nat} (h : j < r) : endR Q D l R r j = Q j := by unfold endR; rw [if_pos h]
theorem endE_sess {t : Nat} (h : same s t = true) (ht : t < n) : endE E s D l m n R r (m + (TL s t).length) = ((t : Int) - 1, (t : Int), 0) := by
  have g := TL_get h ht
  have hl := (List.getElem?_eq_some_iff.1 g).1
  unfold endE
  rw [if_neg (by omega), if_pos (by omega), Nat.add_sub_cancel_left]
  simp [sessE, List.getD, g]
theorem endE_read {q t i : Nat} (h : (RL (fun t i => (D t i).2.2.1) l R)[q]? = some (t, i)) : endE E s D l m n R r (m + (TL s n).length + q) = ((D t i).2.2.1, (t : Int), ((r + q : Nat) : Int)) := by
  unfold endE
  rw [if_neg (by omega), if_neg (by omega), Nat.add_sub_cancel_left]
  simp [readE, List.getD, h]
theorem endR_read {q t i : Nat} (h : (RL (fun t i => (D t i).2.2.1) l R)[q]? = some (t, i)) : endR Q D l R r (r + q) = (1, (D t i).1, (D t i).2.1, 0) := by
  unfold endR
  rw [if_neg (by omega), Nat.add_sub_cancel_left]
  simp [readR, List.getD, h]
end

/-! ### What the law's guards say of the sessions -/
theorem pos_plain {s f : Nat → Int} {n : Nat} (h : ∀ t, t < n → 0 ≤ s t ∧ ((t = 0 ∨ s (t - 1) ≠ s t) → f (s t).toNat = t)) :
    ∀ t, t < n → 0 ≤ f (s t).toNat ∧ f (s t).toNat ≤ t ∧ (same s t = true ↔ f (s t).toNat < t) := by
  intro t
  induction t with
  | zero =>
    intro ht
    have := (h 0 ht).2 (.inl rfl)
    refine ⟨by omega, by omega, ?_⟩
    simp only [same, decide_eq_true_eq]
    omega
  | succ t ih =>
    intro ht
    obtain ⟨h1, h2, _⟩ := ih (by omega)
    by_cases e : s t = s (t + 1)
    · rw [← e]
      refine ⟨h1, by omega, ?_⟩
      simp only [same, decide_eq_true_eq, Nat.add_sub_cancel]
      constructor
      · intro _; omega
      · intro _; exact ⟨by omega, e⟩
    · have := (h (t + 1) ht).2 (.inr (by simpa using e))
      refine ⟨by omega, by omega, ?_⟩
      simp only [same, decide_eq_true_eq, Nat.add_sub_cancel]
      constructor
      · intro hh; exact absurd hh.2 e
      · intro hh; omega
end Go.Proofs.Qxb6605286a
