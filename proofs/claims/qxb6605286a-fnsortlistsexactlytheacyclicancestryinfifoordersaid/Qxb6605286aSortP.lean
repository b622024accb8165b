/-
  THE PLAIN LAW OF sort: what the queue of transactions holds. No Go in sight.
-/
import Derived.Test.Qxb6605286aAdjP
namespace Go.Proofs.Qxb6605286a

/-- How many j < k answer p. -/
def cntB (p : Nat → Bool) : Nat → Nat
  | 0 => 0
  | k + 1 => cntB p k + if p k then 1 else 0
theorem cntB_le (p : Nat → Bool) (k : Nat) : cntB p k ≤ k := by
  induction k with
  | zero => exact Nat.le_refl _
  | succ k ih => rw [cntB]; split <;> omega
theorem cntB_zero {p : Nat → Bool} {k : Nat} : cntB p k = 0 ↔ ∀ j, j < k → p j = false := by
  induction k with
  | zero => exact ⟨fun _ j hj => by omega, fun _ => rfl⟩
  | succ k ih =>
    rw [cntB]
    constructor
    · intro h j hj
      cases hp : p k with
      | true => rw [hp] at h; simp at h
      | false =>
        rw [hp] at h
        by_cases e : j = k
        · rw [e]; exact hp
        · exact ih.1 (by simpa using h) j (by omega)
    · intro h
      rw [h k (by omega), ih.2 fun j hj => h j (by omega)]; rfl
theorem cntB_congr {p q : Nat → Bool} {k : Nat} (h : ∀ j, j < k → p j = q j) : cntB p k = cntB q k := by
  induction k with
  | zero => rfl
  | succ k ih => rw [cntB, cntB, ih fun j hj => h j (by omega), h k (by omega)]
theorem cntB_drop {p q : Nat → Bool} {k j0 : Nat} (hj : j0 < k) (hp : p j0 = true) (hq : q j0 = false) (h : ∀ j, j < k → j ≠ j0 → q j = p j) : cntB q k + 1 = cntB p k := by
  induction k with
  | zero => omega
  | succ k ih =>
    rw [cntB, cntB]
    by_cases e : j0 = k
    · subst e
      rw [hp, hq, cntB_congr fun j hj' => h j (by omega) (by omega)]; simp
    · have := ih (by omega) fun j h1 h2 => h j (by omega) h2
      rw [h k (by omega) (by omega)]; omega

section
variable (n m : Nat) (f t : Nat → Nat)

/-- The transactions without an edge into them, by number. -/
def srcs : List Nat := (List.range n).filter fun v => decide (cntB (fun j => decide (t j = v)) m = 0)
def idx (L : List Nat) (v : Nat) : Nat := L.idxOf v
/-- Edge j has been looked at when c edges of the i-th listed transaction have. -/
def Proc (L : List Nat) (i c j : Nat) : Prop := f j ∈ L ∧ (idx L (f j) < i ∨ idx L (f j) = i ∧ j ∈ (outs f m (f j)).take c)
/-- The place of edge j in the order in which edges are looked at. -/
def Lt (L : List Nat) (a b : Nat) : Prop := idx L (f a) < idx L (f b) ∨ idx L (f a) = idx L (f b) ∧ a < b

structure Inv (L C : List Nat) (i c : Nat) : Prop where
  i1 : L = srcs n m t ++ C.map t
  i2 : L.Nodup
  i3 : ∀ v ∈ L, v < n
  i4 : ∀ j ∈ C, j < m ∧ Proc m f L i c j
  i5 : ∀ v, v < n → (v ∈ L ↔ ∀ j, j < m → t j = v → Proc m f L i c j)
  i6 : ∀ j0 ∈ C, ∀ j, j < m → t j = t j0 → f j ∈ L ∧ (Lt f L j j0 ∨ j = j0) ∧ idx L (f j) < idx L (t j)
  i7 : C.Pairwise (Lt f L)
end

variable {n m : Nat} {f t : Nat → Nat}

theorem mem_srcs {v : Nat} : v ∈ srcs n m t ↔ v < n ∧ ∀ j, j < m → t j ≠ v := by
  unfold srcs
  rw [List.mem_filter, List.mem_range, decide_eq_true_eq, cntB_zero]
  simp
theorem mem_outs {k u j : Nat} : j ∈ outs f k u ↔ j < k ∧ f j = u := by simp [outs]
theorem outs_sorted (k u : Nat) : (outs f k u).Pairwise (· < ·) := (List.pairwise_lt_range).filter _
theorem sorted_take {l : List Nat} (h : l.Pairwise (· < ·)) {c : Nat} (hc : c < l.length) : ∀ j ∈ l.take c, j < l[c] := by
  intro j hj
  obtain ⟨i, hi, e⟩ := List.mem_take_iff_getElem.1 hj
  rw [← e]
  exact List.pairwise_iff_getElem.1 h i c (by omega) hc (by omega)
theorem take_succ' {l : List Nat} {c : Nat} (hc : c < l.length) {j : Nat} : j ∈ l.take (c + 1) ↔ j ∈ l.take c ∨ j = l[c] := by
  rw [List.take_add_one, List.getElem?_eq_getElem hc, List.mem_append]
  simp only [Option.toList_some, List.mem_singleton]

theorem idx_append {L : List Nat} {v x : Nat} (h : x ∈ L) : idx (L ++ [v]) x = idx L x := by
  unfold idx; rw [List.idxOf_append, if_pos h]
theorem idx_last {L : List Nat} {v : Nat} (h : v ∉ L) : idx (L ++ [v]) v = L.length := by
  unfold idx; rw [List.idxOf_append, if_neg h]; simp
theorem idx_lt {L : List Nat} {x : Nat} (h : x ∈ L) : idx L x < L.length := List.idxOf_lt_length_of_mem h
theorem idx_get {L : List Nat} (h : L.Nodup) {i : Nat} (hi : i < L.length) : idx L L[i] = i := h.idxOf_getElem i hi
theorem idx_inj {L : List Nat} {x y : Nat} (hx : x ∈ L) (hy : y ∈ L) (h : idx L x = idx L y) : x = y := by
  have h1 := List.getElem_idxOf (idx_lt hx)
  have h2 := List.getElem_idxOf (idx_lt hy)
  have h' : L.idxOf x = L.idxOf y := h
  have h3 : L[L.idxOf x]'(idx_lt hx) = L[L.idxOf y]'(idx_lt hy) := getElem_congr rfl h' _
  exact h1.symm.trans (h3.trans h2)

/-- The start. -/
theorem inv_start : Inv n m f t (srcs n m t) [] 0 0 := by
  refine ⟨by simp, (List.nodup_range).filter _, fun v hv => (mem_srcs.1 hv).1, by simp, fun v hv => ?_, by simp, .nil⟩
  rw [mem_srcs]
  constructor
  · rintro ⟨_, h⟩ j hj e
    exact absurd e (h j hj)
  · intro h
    refine ⟨hv, fun j hj e => ?_⟩
    obtain ⟨_, h1 | ⟨_, h1⟩⟩ := h j hj e
    · omega
    · simp at h1

theorem proc_append {L : List Nat} {v i c j : Nat} (hi : i < L.length) (hv : v ∉ L) : Proc m f (L ++ [v]) i c j ↔ Proc m f L i c j := by
  unfold Proc
  by_cases h : f j ∈ L
  · rw [idx_append h]; simp [h]
  · constructor
    · rintro ⟨h1, h2⟩
      have : f j = v := by simpa [h] using h1
      rw [this, idx_last hv] at h2
      omega
    · rintro ⟨h1, _⟩; exact absurd h1 h

/-- The edge that comes up has not been looked at. -/
theorem not_proc {L : List Nat} (hn : L.Nodup) {i c : Nat} (hi : i < L.length) (hc : c < (outs f m L[i]).length) : ¬ Proc m f L i c ((outs f m L[i])[c]) := by
  have hm := mem_outs.1 (List.getElem_mem hc)
  rintro ⟨_, h⟩
  rw [hm.2, idx_get hn hi] at h
  rcases h with h | ⟨_, h⟩
  · omega
  · have := sorted_take (outs_sorted m L[i]) hc _ h; omega
theorem proc_succ {L : List Nat} (hn : L.Nodup) {i c : Nat} (hi : i < L.length) (hc : c < (outs f m L[i]).length) {j : Nat} : Proc m f L i (c + 1) j ↔ Proc m f L i c j ∨ j = (outs f m L[i])[c] := by
  have hm := mem_outs.1 (List.getElem_mem hc)
  constructor
  · rintro ⟨h1, h2 | ⟨h2, h3⟩⟩
    · exact .inl ⟨h1, .inl h2⟩
    · have e : f j = L[i] := idx_inj h1 (List.getElem_mem hi) (by rw [h2, idx_get hn hi])
      rw [e, take_succ' hc] at h3
      rcases h3 with h3 | h3
      · exact .inl ⟨h1, .inr ⟨h2, by rw [e]; exact h3⟩⟩
      · exact .inr h3
  · rintro (⟨h1, h2 | ⟨h2, h3⟩⟩ | h)
    · exact ⟨h1, .inl h2⟩
    · exact ⟨h1, .inr ⟨h2, List.take_subset_take_left _ (by omega) h3⟩⟩
    · subst h
      refine ⟨by rw [hm.2]; exact List.getElem_mem hi, .inr ⟨by rw [hm.2, idx_get hn hi], ?_⟩⟩
      rw [hm.2, take_succ' hc]; exact .inr rfl

/-- An edge is looked at; its target still waits. -/
theorem inv_wait {L C : List Nat} {i c : Nat} (h : Inv n m f t L C i c) (hi : i < L.length) (hc : c < (outs f m L[i]).length) (hw : ¬ ∀ j, j < m → t j = t ((outs f m L[i])[c]) → Proc m f L i (c + 1) j) : Inv n m f t L C i (c + 1) := by
  obtain ⟨h1, h2, h3, h4, h5, h6, h7⟩ := h
  have hm := mem_outs.1 (List.getElem_mem hc)
  refine ⟨h1, h2, h3, fun j hj => ⟨(h4 j hj).1, (proc_succ h2 hi hc).2 (.inl (h4 j hj).2)⟩, fun v hv => ?_, h6, h7⟩
  by_cases e : v = t ((outs f m L[i])[c])
  · subst e
    constructor
    · intro hL
      exact absurd ((h5 _ hv).1 hL _ hm.1 rfl) (not_proc h2 hi hc)
    · intro hall; exact absurd hall hw
  · rw [h5 v hv]
    constructor
    · intro g j hj ej; exact (proc_succ h2 hi hc).2 (.inl (g j hj ej))
    · intro g j hj ej
      rcases (proc_succ h2 hi hc).1 (g j hj ej) with q | q
      · exact q
      · subst q; exact absurd ej.symm e

/-- An edge is looked at, the last into its target, which is listed. -/
theorem inv_list {L C : List Nat} {i c : Nat} (h : Inv n m f t L C i c) (hi : i < L.length) (hc : c < (outs f m L[i]).length) (htn : t ((outs f m L[i])[c]) < n) (hall : ∀ j, j < m → t j = t ((outs f m L[i])[c]) → Proc m f L i (c + 1) j) :
    Inv n m f t (L ++ [t ((outs f m L[i])[c])]) (C ++ [(outs f m L[i])[c]]) i (c + 1) := by
  obtain ⟨h1, h2, h3, h4, h5, h6, h7⟩ := h
  have hm := mem_outs.1 (List.getElem_mem hc)
  have hnp := not_proc (m := m) (f := f) h2 hi hc
  have hps := fun {j} => proc_succ (m := m) (f := f) h2 hi hc (j := j)
  have hsort := sorted_take (outs_sorted (f := f) m L[i]) hc
  have hig := idx_get h2 hi
  have hLi : L[i] ∈ L := List.getElem_mem hi
  generalize (outs f m L[i])[c] = j0 at *
  have hv : t j0 ∉ L := fun hL => hnp ((h5 _ htn).1 hL _ hm.1 rfl)
  have hLt : ∀ a b, f a ∈ L → f b ∈ L → (Lt f (L ++ [t j0]) a b ↔ Lt f L a b) := fun a b ha hb => by unfold Lt; rw [idx_append ha, idx_append hb]
  have hC : ∀ j ∈ C, f j ∈ L := fun j hj => (h4 j hj).2.1
  refine ⟨by rw [h1]; simp, ?_, ?_, ?_, ?_, ?_, ?_⟩
  · rw [List.nodup_append]
    refine ⟨h2, by simp, fun a ha b hb => ?_⟩
    simp at hb; subst hb
    exact fun e => hv (e ▸ ha)
  · intro v hvm
    rcases List.mem_append.1 hvm with q | q
    · exact h3 v q
    · simp at q; subst q; exact htn
  · intro j hj
    rw [proc_append hi hv]
    rcases List.mem_append.1 hj with q | q
    · exact ⟨(h4 j q).1, hps.2 (.inl (h4 j q).2)⟩
    · simp at q; subst q; exact ⟨hm.1, hps.2 (.inr rfl)⟩
  · intro v hvn
    simp only [proc_append hi hv]
    by_cases e : v = t j0
    · subst e
      exact ⟨fun _ => hall, fun _ => by simp⟩
    · rw [List.mem_append, h5 v hvn]
      constructor
      · rintro (g | g)
        · intro j hj ej; exact hps.2 (.inl (g j hj ej))
        · simp at g; exact absurd g e
      · intro g
        left
        intro j hj ej
        rcases hps.1 (g j hj ej) with q | q
        · exact q
        · subst q; exact absurd ej.symm e
  · intro k0 hk0 j hj ej
    rcases List.mem_append.1 hk0 with q | q
    · obtain ⟨a1, a2, a3⟩ := h6 k0 q j hj ej
      have htj : t j ∈ L := by
        rw [ej, h1]
        exact List.mem_append.2 (.inr (List.mem_map.2 ⟨k0, q, rfl⟩))
      refine ⟨List.mem_append.2 (.inl a1), ?_, by rw [idx_append a1, idx_append htj]; exact a3⟩
      rcases a2 with a2 | a2
      · exact .inl ((hLt _ _ a1 (hC k0 q)).2 a2)
      · exact .inr a2
    · simp at q
      subst q
      obtain ⟨a1, a2⟩ := hall j hj ej
      have hfj0 : f k0 ∈ L := by rw [hm.2]; exact hLi
      refine ⟨List.mem_append.2 (.inl a1), ?_, ?_⟩
      · rcases hps.1 (hall j hj ej) with ⟨_, b | ⟨b1, b2⟩⟩ | b
        · left
          rw [hLt _ _ a1 hfj0]
          left; rw [hm.2, hig]; exact b
        · left
          rw [hLt _ _ a1 hfj0]
          right
          have e : f j = L[i] := idx_inj a1 hLi (by rw [b1, hig])
          exact ⟨by rw [hm.2, hig, b1], hsort j (by rw [← e]; exact b2)⟩
        · exact .inr b
      · rw [ej, idx_last hv, idx_append a1]
        exact idx_lt a1
  · rw [List.pairwise_append]
    refine ⟨?_, by simp, fun a ha b hb => ?_⟩
    · exact h7.imp_of_mem fun {a b} ha hb hab => (hLt _ _ (hC a ha) (hC b hb)).2 hab
    · simp at hb
      subst hb
      have hfj0 : f b ∈ L := by rw [hm.2]; exact hLi
      rw [hLt _ _ (hC a ha) hfj0]
      obtain ⟨_, q | ⟨q1, q2⟩⟩ := (h4 a ha).2
      · left; rw [hm.2, hig]; exact q
      · right
        have e : f a = L[i] := idx_inj (hC a ha) hLi (by rw [q1, hig])
        exact ⟨by rw [hm.2, hig, q1], hsort a (by rw [← e]; exact q2)⟩

/-- On to the next listed transaction. -/
theorem inv_next {L C : List Nat} {i : Nat} (hi : i < L.length) (h : Inv n m f t L C i (outs f m L[i]).length) : Inv n m f t L C (i + 1) 0 := by
  obtain ⟨h1, h2, h3, h4, h5, h6, h7⟩ := h
  have hp : ∀ j, j < m → (Proc m f L (i + 1) 0 j ↔ Proc m f L i (outs f m L[i]).length j) := by
    intro j hj
    unfold Proc
    constructor
    · rintro ⟨a, b | ⟨_, b⟩⟩
      · by_cases e : idx L (f j) = i
        · refine ⟨a, .inr ⟨e, ?_⟩⟩
          have e2 : f j = L[i] := idx_inj a (List.getElem_mem hi) (by rw [e, idx_get h2 hi])
          rw [e2, List.take_of_length_le (Nat.le_refl _)]
          exact mem_outs.2 ⟨hj, e2⟩
        · exact ⟨a, .inl (by omega)⟩
      · simp at b
    · rintro ⟨a, b | ⟨b, _⟩⟩
      · exact ⟨a, .inl (by omega)⟩
      · exact ⟨a, .inl (by omega)⟩
  refine ⟨h1, h2, h3, fun j hj => ⟨(h4 j hj).1, (hp j (h4 j hj).1).2 (h4 j hj).2⟩, fun v hv => ?_, h6, h7⟩
  rw [h5 v hv]
  exact ⟨fun g j hj ej => (hp j hj).2 (g j hj ej), fun g j hj ej => (hp j hj).1 (g j hj ej)⟩

/-- All has been looked at. -/
structure Fin (n m : Nat) (f t : Nat → Nat) (L C : List Nat) : Prop where
  f1 : L = srcs n m t ++ C.map t
  f2 : L.Nodup
  f3 : ∀ v ∈ L, v < n
  f4 : ∀ j ∈ C, j < m ∧ f j ∈ L
  f5 : ∀ v, v < n → (v ∈ L ↔ ∀ j, j < m → t j = v → f j ∈ L)
  f6 : ∀ j0 ∈ C, ∀ j, j < m → t j = t j0 → f j ∈ L ∧ (Lt f L j j0 ∨ j = j0) ∧ idx L (f j) < idx L (t j)
  f7 : C.Pairwise (Lt f L)
theorem inv_fin {L C : List Nat} (h : Inv n m f t L C L.length 0) : Fin n m f t L C := by
  obtain ⟨h1, h2, h3, h4, h5, h6, h7⟩ := h
  have hp : ∀ j, Proc m f L L.length 0 j ↔ f j ∈ L := fun j => ⟨fun h => h.1, fun h => ⟨h, .inl (idx_lt h)⟩⟩
  refine ⟨h1, h2, h3, fun j hj => ⟨(h4 j hj).1, (hp j).1 (h4 j hj).2⟩, fun v hv => ?_, h6, h7⟩
  rw [h5 v hv]
  simp only [hp]
theorem nodup_bound : ∀ (n : Nat) (L : List Nat), L.Nodup → (∀ v ∈ L, v < n) → L.length ≤ n
  | 0, L, _, h => by
    cases L with
    | nil => exact Nat.le_refl _
    | cons a l => have := h a (List.mem_cons_self ..); omega
  | n + 1, L, hn, h => by
    have h1 := nodup_bound n (L.erase n) (hn.erase n) fun v hv => by
      have h2 := (hn.mem_erase_iff).1 hv
      have := h v h2.2
      have := h2.1
      omega
    rw [List.length_erase] at h1
    split at h1 <;> omega
theorem inv_len {L C : List Nat} {i c : Nat} (h : Inv n m f t L C i c) : L.length ≤ n := by
  exact nodup_bound n L h.i2 h.i3
end Go.Proofs.Qxb6605286a
