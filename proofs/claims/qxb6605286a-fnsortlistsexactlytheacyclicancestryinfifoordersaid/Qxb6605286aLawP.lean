/-
  THE PLAIN LAW's CERTIFICATE: what the tables of FnSortListsExactlyTheAcyclicAncestryInFifoOrder hold, and that every test passes. No Go in sight.
-/
import Derived.Test.Qxb6605286aSortP
namespace Go.Proofs.Qxb6605286a

/-- The place of v in the order, or -1. -/
def posV (L : List Nat) (v : Nat) : Int := if v ∈ L then (idx L v : Int) else -1
theorem posV_in {L : List Nat} {v : Nat} (h : v ∈ L) : posV L v = idx L v := by rw [posV, if_pos h]
theorem posV_out {L : List Nat} {v : Nat} (h : v ∉ L) : posV L v = -1 := by rw [posV, if_neg h]
theorem posV_ge {L : List Nat} {v : Nat} : 0 ≤ posV L v ↔ v ∈ L := by
  by_cases h : v ∈ L
  · rw [posV_in h]; exact ⟨fun _ => h, fun _ => by omega⟩
  · rw [posV_out h]; exact ⟨fun q => by omega, fun q => absurd q h⟩
theorem posV_lt (L : List Nat) (v : Nat) : -1 ≤ posV L v ∧ posV L v < L.length := by
  by_cases h : v ∈ L
  · have := idx_lt h; rw [posV_in h]; omega
  · rw [posV_out h]; omega
theorem posV_take {L : List Nat} (hn : L.Nodup) {i : Nat} (hi : i < L.length) (u : Nat) : posV (L.take (i + 1)) u = if u = L[i] then (i : Int) else posV (L.take i) u := by
  have e : L.take (i + 1) = L.take i ++ [L[i]] := by rw [List.take_succ_eq_append_getElem hi]
  have hx : L[i] ∉ L.take i := by
    intro h
    obtain ⟨k, hk, e⟩ := List.mem_take_iff_getElem.1 h
    have h1 := idx_get hn (i := k) (by omega)
    have h2 := idx_get hn hi
    rw [e] at h1
    omega
  rw [e]
  by_cases h : u = L[i]
  · rw [if_pos h, h, posV_in (List.mem_append.2 (.inr (List.mem_singleton.2 rfl))), idx_last hx, List.length_take]
    omega
  · rw [if_neg h]
    by_cases hu : u ∈ L.take i
    · rw [posV_in hu, posV_in (List.mem_append.2 (.inl hu)), idx_append hu]
    · rw [posV_out hu, posV_out (fun q => by rcases List.mem_append.1 q with q | q; exact hu q; exact h (List.mem_singleton.1 q))]
theorem posV_new {L : List Nat} (hn : L.Nodup) {i : Nat} (hi : i < L.length) : posV (L.take i) L[i] = -1 := by
  refine posV_out fun h => ?_
  obtain ⟨k, hk, e⟩ := List.mem_take_iff_getElem.1 h
  have h1 := idx_get hn (i := k) (by omega)
  have h2 := idx_get hn hi
  rw [e] at h1
  omega

section
variable (f t : Nat → Nat) (L : List Nat)
/-- last, behind k edges. -/
def lastK : Nat → Nat → Int
  | 0, _ => -1
  | k + 1, v => if t k = v ∧ 0 ≤ posV L (f k) ∧ lastK k v < posV L (f k) then posV L (f k) else lastK k v
/-- blocked, behind k edges. -/
def blkK : Nat → Nat → Bool
  | 0, _ => false
  | k + 1, v => if t k = v ∧ posV L (f k) < 0 then true else blkK k v
/-- lastEdge, behind k edges; last stands. -/
def leK (la : Nat → Int) : Nat → Nat → Int
  | 0, _ => -1
  | k + 1, v => if t k = v ∧ 0 ≤ posV L (f k) ∧ posV L (f k) = la v then (k : Int) else leK la k v
end
variable {n m : Nat} {f t : Nat → Nat} {L C : List Nat}

theorem lastK_bd (k v : Nat) : -1 ≤ lastK f t L k v ∧ lastK f t L k v < L.length := by
  induction k with
  | zero => simp only [lastK]; omega
  | succ k ih =>
    rw [lastK]
    split
    · exact posV_lt L (f k)
    · exact ih
theorem lastK_le {M : Int} {v : Nat} (hM : -1 ≤ M) : ∀ k, (∀ j, j < k → t j = v → posV L (f j) ≤ M) → lastK f t L k v ≤ M := by
  intro k
  induction k with
  | zero => intro _; exact hM
  | succ k ih =>
    intro h
    rw [lastK]
    split
    · rename_i c; exact h k (by omega) c.1
    · exact ih fun j hj => h j (by omega)
theorem lastK_ge {M : Int} {v j0 : Nat} (hM : 0 ≤ M) (ht : t j0 = v) (hp : posV L (f j0) = M) : ∀ k, j0 < k → M ≤ lastK f t L k v := by
  intro k
  induction k with
  | zero => intro h; omega
  | succ k ih =>
    intro h
    rw [lastK]
    by_cases e : j0 = k
    · subst e
      split
      · omega
      · rename_i c
        have : ¬ lastK f t L j0 v < posV L (f j0) := fun q => c ⟨ht, by omega, q⟩
        omega
    · have := ih (by omega)
      split
      · omega
      · exact this
theorem leK_bd (la : Nat → Int) (k v : Nat) : -1 ≤ leK f t L la k v ∧ leK f t L la k v < k := by
  induction k with
  | zero => simp only [leK]; omega
  | succ k ih => rw [leK]; split <;> omega
theorem leK_eq {la : Nat → Int} {v c : Nat} (ht : t c = v) (h0 : 0 ≤ posV L (f c)) (hp : posV L (f c) = la v) : ∀ k, c < k → (∀ j, j < k → t j = v → 0 ≤ posV L (f j) → posV L (f j) = la v → j ≤ c) → leK f t L la k v = c := by
  intro k
  induction k with
  | zero => intro h; omega
  | succ k ih =>
    intro h hall
    rw [leK]
    by_cases e : c = k
    · subst e
      rw [if_pos ⟨ht, h0, hp⟩]
    · rw [if_neg (fun q => by have := hall k (by omega) q.1 q.2.1 q.2.2; omega)]
      exact ih (by omega) fun j hj => hall j (by omega)
theorem blkK_yes {v j0 : Nat} (ht : t j0 = v) (hp : posV L (f j0) < 0) : ∀ k, j0 < k → blkK f t L k v = true := by
  intro k
  induction k with
  | zero => intro h; omega
  | succ k ih =>
    intro h
    rw [blkK]
    split
    · rfl
    · rename_i c
      by_cases e : j0 = k
      · subst e; exact absurd ⟨ht, hp⟩ c
      · exact ih (by omega)

/-- (A) An edge into a listed transaction comes from an earlier listed one. -/
theorem cert_edge (h : Fin n m f t L C) {j : Nat} (hj : j < m) (hp : 0 ≤ posV L (t j)) : 0 ≤ posV L (f j) ∧ posV L (f j) < posV L (t j) := by
  have ht := posV_ge.1 hp
  have ht' := ht
  rw [h.f1] at ht'
  rcases List.mem_append.1 ht' with q | q
  · exact absurd rfl ((mem_srcs.1 q).2 j hj)
  · obtain ⟨j0, hj0, e⟩ := List.mem_map.1 q
    obtain ⟨a, _, b⟩ := h.f6 j0 hj0 j hj e.symm
    rw [posV_in a, posV_in ht]
    omega
/-- (B) An unlisted transaction is blocked. -/
theorem cert_blocked (h : Fin n m f t L C) {v : Nat} (hv : v < n) (hp : posV L v < 0) : blkK f t L m v = true := by
  have hnl : v ∉ L := fun q => by have := posV_ge.2 q; omega
  have : ¬ ∀ j, j < m → t j = v → f j ∈ L := fun q => hnl ((h.f5 v hv).2 q)
  obtain ⟨j, hj⟩ := Classical.not_forall.1 this
  obtain ⟨h1, hj⟩ := Classical.not_imp.1 hj
  obtain ⟨h2, h3⟩ := Classical.not_imp.1 hj
  exact blkK_yes h2 (by rw [posV_out h3]; omega) m h1
/-- (C) The sources stand first. -/
theorem cert_src (h : Fin n m f t L C) {v : Nat} (hv : v < n) (hs : cntB (fun j => decide (t j = v)) m = 0) : L[((List.range v).filter fun u => decide (cntB (fun j => decide (t j = u)) m = 0)).length]? = some v := by
  have hl : srcs n m t = ((List.range v).filter fun u => decide (cntB (fun j => decide (t j = u)) m = 0)) ++ (v :: ((List.range' (v + 1) (n - (v + 1))).filter fun u => decide (cntB (fun j => decide (t j = u)) m = 0))) := by
    have e : List.range n = List.range v ++ (v :: List.range' (v + 1) (n - (v + 1))) := by
      rw [List.range_eq_range', List.range_eq_range', show n = v + (1 + (n - (v + 1))) by omega, ← List.range'_append_1, show v + (1 + (n - (v + 1))) - (v + 1) = n - (v + 1) by omega, Nat.add_comm 1 (n - (v + 1)), List.range'_succ]
      simp
    unfold srcs
    rw [e, List.filter_append, List.filter_cons]
    simp [hs]
  rw [h.f1, hl]
  simp
theorem cert_srcs_len (h : Fin n m f t L C) : L.length = (srcs n m t).length + C.length := by rw [h.f1]; simp
/-- What the tables say of a transaction that came in by edge c. -/
theorem cert_tables (h : Fin n m f t L C) {c : Nat} (hc : c ∈ C) : lastK f t L m (t c) = idx L (f c) ∧ leK f t L (lastK f t L m) m (t c) = c := by
  obtain ⟨hcm, hfc⟩ := h.f4 c hc
  have h1 : lastK f t L m (t c) = idx L (f c) := by
    have a := lastK_le (f := f) (t := t) (L := L) (M := (idx L (f c) : Int)) (v := t c) (by omega) m (fun j hj e => by
      obtain ⟨q1, q2, _⟩ := h.f6 c hc j hj e
      rw [posV_in q1]
      rcases q2 with q2 | rfl
      · rcases q2 with q | ⟨q, _⟩ <;> omega
      · exact Int.le_refl _)
    have b := lastK_ge (f := f) (t := t) (L := L) (M := (idx L (f c) : Int)) (v := t c) (j0 := c) (by omega) rfl (posV_in hfc) m hcm
    omega
  refine ⟨h1, leK_eq rfl (by rw [posV_in hfc]; omega) (by rw [h1, posV_in hfc]) m hcm fun j hj e p0 p1 => ?_⟩
  obtain ⟨q1, q2, _⟩ := h.f6 c hc j hj e
  rw [h1, posV_in q1] at p1
  rcases q2 with q2 | rfl
  · rcases q2 with q | ⟨_, q⟩
    · omega
    · omega
  · exact Nat.le_refl _
/-- (D) The rest stands in the order of its tables. -/
theorem cert_rest (h : Fin n m f t L C) {i a b : Nat} (hi : (srcs n m t).length < i) (ha : L[i - 1]? = some a) (hb : L[i]? = some b) :
    lastK f t L m a < lastK f t L m b ∨ lastK f t L m a = lastK f t L m b ∧ leK f t L (lastK f t L m) m a < leK f t L (lastK f t L m) m b := by
  obtain ⟨s, hs⟩ : ∃ s, s = (srcs n m t).length := ⟨_, rfl⟩
  rw [h.f1, List.getElem?_append_right (by omega), List.getElem?_map] at ha hb
  rw [← hs] at ha hb hi
  obtain ⟨ca, hca, rfl⟩ := Option.map_eq_some_iff.1 ha
  obtain ⟨cb, hcb, rfl⟩ := Option.map_eq_some_iff.1 hb
  obtain ⟨l1, e1⟩ := List.getElem?_eq_some_iff.1 hca
  obtain ⟨l2, e2⟩ := List.getElem?_eq_some_iff.1 hcb
  have hlt := List.pairwise_iff_getElem.1 h.f7 (i - 1 - s) (i - s) l1 l2 (by omega)
  rw [e1, e2] at hlt
  obtain ⟨p1, p2⟩ := cert_tables h (c := ca) (by rw [← e1]; exact List.getElem_mem l1)
  obtain ⟨q1, q2⟩ := cert_tables h (c := cb) (by rw [← e2]; exact List.getElem_mem l2)
  rw [p1, p2, q1, q2]
  rcases hlt with q | ⟨q, r⟩
  · left; omega
  · right; omega
end Go.Proofs.Qxb6605286a
