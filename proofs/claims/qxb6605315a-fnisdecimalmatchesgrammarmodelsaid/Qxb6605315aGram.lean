/-
  THE PLAIN LAW OF THE GRAMMAR: what isDecimal computes is what the recogniser of laws_pkg_num_b1.go decides. No Go in sight.
-/
import Derived.Test.Qxb6605315aDec
namespace Go.Proofs.Qxb6605315a

/-- How many places of a, .., a + n - 1 answer f. -/
def cnt (f : Nat → Bool) (a : Nat) : Nat → Nat
  | 0 => 0
  | n + 1 => cnt f a n + if f (a + n) then 1 else 0
theorem cnt_le (f : Nat → Bool) (a n : Nat) : cnt f a n ≤ n := by
  induction n with
  | zero => exact Nat.le_refl _
  | succ n ih => rw [cnt]; split <;> omega
theorem cnt_zero {f : Nat → Bool} {a n : Nat} (h : ∀ i, a ≤ i → i < a + n → f i = false) : cnt f a n = 0 := by
  induction n with
  | zero => rfl
  | succ n ih => rw [cnt, ih (fun i h1 h2 => h i h1 (by omega)), h (a + n) (by omega) (by omega)]; rfl
theorem cnt_le_one {f : Nat → Bool} {a n c : Nat} (h : ∀ i, a ≤ i → i < a + n → f i = true → i = c) : cnt f a n ≤ 1 := by
  induction n with
  | zero => exact Nat.zero_le _
  | succ n ih =>
    rw [cnt]
    cases hf : f (a + n) with
    | false => simpa using ih (fun i h1 h2 h3 => h i h1 (by omega) h3)
    | true =>
      have hc := h (a + n) (by omega) (by omega) hf
      have : cnt f a n = 0 := cnt_zero fun i h1 h2 => by
        cases hi : f i with
        | false => rfl
        | true => have := h i h1 (by omega) hi; omega
      simp [this]
theorem cnt_pos {f : Nat → Bool} {a n i : Nat} (h1 : a ≤ i) (h2 : i < a + n) (h : f i = true) : 1 ≤ cnt f a n := by
  induction n with
  | zero => omega
  | succ n ih =>
    rw [cnt]
    by_cases e : i = a + n
    · rw [← e, h]; simp
    · have := ih (by omega); omega
theorem cnt_two {f : Nat → Bool} {a n i j : Nat} (h1 : a ≤ i) (h2 : i < j) (h3 : j < a + n) (hi : f i = true) (hj : f j = true) : 2 ≤ cnt f a n := by
  induction n with
  | zero => omega
  | succ n ih =>
    rw [cnt]
    by_cases e : j = a + n
    · rw [← e, hj]
      have := cnt_pos (f := f) (n := n) h1 (by omega) hi
      simp; omega
    · have := ih (by omega); omega
theorem cnt_ex {f : Nat → Bool} {a n : Nat} (h : 1 ≤ cnt f a n) : ∃ i, a ≤ i ∧ i < a + n ∧ f i = true := by
  induction n with
  | zero => simp [cnt] at h
  | succ n ih =>
    rw [cnt] at h
    cases hf : f (a + n) with
    | true => exact ⟨a + n, by omega, by omega, hf⟩
    | false =>
      rw [hf] at h
      obtain ⟨i, g1, g2, g3⟩ := ih (by simpa using h)
      exact ⟨i, g1, by omega, g3⟩

/-- The mantissa's places are a, .., b - 1. -/
def Mant (s : ByteArray) (a b : Nat) : Prop :=
  (∀ i, a ≤ i → i < b → eqB s i 46 = true ∨ digAt s i = true) ∧ cnt (fun i => eqB s i 46) a (b - a) ≤ 1 ∧ 1 ≤ cnt (digAt s) a (b - a)
/-- The exponent's digits are the places from q to the end. -/
def ExOk (s : ByteArray) (q : Nat) : Prop := 1 ≤ s.size - q ∧ s.size - q ≤ 3 ∧ ∀ i, q ≤ i → i < s.size → digAt s i = true

theorem dig_is {s : ByteArray} {i : Nat} : digAt s i = true ↔ 48 ≤ byt s i ∧ byt s i ≤ 57 := by simp [digAt]
theorem dig_not {s : ByteArray} {i : Nat} : digAt s i = false ↔ ¬ (48 ≤ byt s i ∧ byt s i ≤ 57) := by
  rw [digAt]; exact decide_eq_false_iff_not
theorem eq_is {s : ByteArray} {i c : Nat} : eqB s i c = true ↔ byt s i = c := by simp [eqB]
theorem eq_not {s : ByteArray} {i c : Nat} : eqB s i c = false ↔ ¬ byt s i = c := by simp [eqB]
theorem or_is {s : ByteArray} {i c d : Nat} : orB s i c d = true ↔ byt s i = c ∨ byt s i = d := by simp [orB]
theorem or_not {s : ByteArray} {i c d : Nat} : orB s i c d = false ↔ ¬ (byt s i = c ∨ byt s i = d) := by
  rw [orB]; exact decide_eq_false_iff_not

theorem expOk_iff {s : ByteArray} {p : Nat} (hp : p ≤ s.size) : expOk s p = true ↔ ExOk s (pSign s p) := by
  have hq : pSign s p ≤ s.size := by
    unfold pSign
    split
    · have := byt_pos (s := s) (i := p) (by omega); omega
    · exact hp
  obtain ⟨q, hQ⟩ : ∃ q, q = pSign s p := ⟨_, rfl⟩
  unfold expOk ExOk
  rw [← hQ] at hq ⊢
  simp only [decide_eq_true_eq]
  obtain ⟨d1, d2⟩ := runEnd_digs s q
  have g1 := runEnd_ge s q
  have g2 := runEnd_le hq
  constructor
  · rintro ⟨h1, h2, h3⟩
    exact ⟨by omega, by omega, fun i a b => d1 i a (by omega)⟩
  · rintro ⟨h1, h2, h3⟩
    have : runEnd s q = s.size := by
      by_cases e : runEnd s q < s.size
      · rw [h3 _ g1 e] at d2; cases d2
      · omega
    exact ⟨by omega, by omega, this⟩

theorem dec_iff {s : ByteArray} {k : Nat} (hk : k ≤ s.size) (hno : ∀ i, i < k → orB s i 101 69 = false) (he : k = s.size ∨ orB s k 101 69 = true) :
    isDec s = true ↔ Mant s (pMinus s) k ∧ (k = s.size ∨ ExOk s (pSign s (k + 1))) := by
  have hk' : k < s.size → orB s k 101 69 = true := fun h => by rcases he with h' | h'; omega; exact h'
  have bk : byt s k = 0 ∨ byt s k = 101 ∨ byt s k = 69 := by
    by_cases h : k < s.size
    · exact .inr (or_is.1 (hk' h))
    · exact .inl (byt_out h)
  have hp0 : pMinus s ≤ k ∧ (pMinus s = 0 ∨ pMinus s = 1 ∧ byt s 0 = 45) := by
    unfold pMinus
    split
    · rename_i h
      refine ⟨?_, .inr ⟨rfl, h⟩⟩
      by_cases e : k = 0
      · subst e; omega
      · omega
    · exact ⟨Nat.zero_le _, .inl rfl⟩
  unfold isDec
  obtain ⟨p0, hP0⟩ : ∃ p, p = pMinus s := ⟨_, rfl⟩
  rw [← hP0] at hp0 ⊢
  clear hP0
  obtain ⟨hp0, hm⟩ := hp0
  obtain ⟨p1, hP1⟩ : ∃ p, p = runEnd s p0 := ⟨_, rfl⟩
  obtain ⟨d1, d2⟩ := runEnd_digs s p0
  have g1 := runEnd_ge s p0
  have g2 := runEnd_le (s := s) (p := p0) (by omega)
  rw [← hP1] at d1 d2 g1 g2 ⊢
  clear hP1
  obtain ⟨p2, hP2⟩ : ∃ p, p = pDot s p1 := ⟨_, rfl⟩
  rw [← hP2]
  -- what the mantissa, as isDecimal reads it, holds
  have A : p1 ≤ p2 ∧ p2 ≤ s.size ∧ digAt s p2 = false ∧ nFrac s p1 = (if byt s p1 = 46 then p2 - (p1 + 1) else 0) ∧ (p2 = p1 ∧ byt s p1 ≠ 46 ∨ p1 < p2 ∧ byt s p1 = 46 ∧ ∀ i, p1 < i → i < p2 → digAt s i = true) := by
    subst hP2
    unfold pDot nFrac
    by_cases h : byt s p1 = 46
    · rw [if_pos h, if_pos h]
      have hl := byt_pos (s := s) (i := p1) (by omega)
      obtain ⟨e1, e2⟩ := runEnd_digs s (p1 + 1)
      have k1 := runEnd_ge s (p1 + 1)
      have k2 := runEnd_le (s := s) (p := p1 + 1) (by omega)
      exact ⟨by omega, k2, e2, rfl, .inr ⟨by omega, h, fun i a b => e1 i (by omega) b⟩⟩
    · rw [if_neg h, if_neg h]
      exact ⟨Nat.le_refl _, g2, d2, by rw [if_neg h], .inl ⟨rfl, h⟩⟩
  obtain ⟨a1, a2, a3, a4, a5⟩ := A
  have inside : ∀ i, i < p2 → orB s i 101 69 = false := by
    intro i hi
    rw [or_not]
    by_cases c1 : i < p0
    · have : i = 0 := by omega
      subst this
      omega
    · by_cases c2 : i < p1
      · have := dig_is.1 (d1 i (by omega) c2); omega
      · rcases a5 with ⟨c3, _⟩ | ⟨_, c4, c5⟩
        · omega
        · by_cases c6 : i = p1
          · subst c6; omega
          · have := dig_is.1 (c5 i (by omega) hi); omega
  constructor
  · intro h
    split at h
    · cases h
    · rename_i hD
      have hkp : k = p2 := by
        unfold tailOk at h
        have h1 : ¬ p2 < k := by
          intro hlt
          have := or_not.1 (hno p2 hlt)
          rw [if_neg this] at h
          simp only [decide_eq_true_eq] at h
          omega
        have h2 : ¬ k < p2 := by
          intro hlt
          have := hk' (by omega)
          rw [inside k hlt] at this
          cases this
        omega
      subst hkp
      refine ⟨⟨?_, ?_, ?_⟩, ?_⟩
      · intro i h1 h2
        by_cases c2 : i < p1
        · exact .inr (d1 i h1 c2)
        · rcases a5 with ⟨c3, _⟩ | ⟨_, c4, c5⟩
          · omega
          · by_cases c6 : i = p1
            · subst c6; exact .inl (eq_is.2 c4)
            · exact .inr (c5 i (by omega) h2)
      · refine cnt_le_one (c := p1) fun i h1 h2 h3 => ?_
        have h3 := eq_is.1 h3
        by_cases c2 : i < p1
        · have := dig_is.1 (d1 i h1 c2); omega
        · rcases a5 with ⟨c3, _⟩ | ⟨_, c4, c5⟩
          · omega
          · by_cases c6 : i = p1
            · exact c6
            · have := dig_is.1 (c5 i (by omega) (by omega)); omega
      · by_cases c : p0 < p1
        · exact cnt_pos (i := p0) (Nat.le_refl _) (by omega) (d1 p0 (Nat.le_refl _) c)
        · rcases a5 with ⟨c3, c4⟩ | ⟨_, c4, c5⟩
          · rw [a4, if_neg c4] at hD; omega
          · rw [a4, if_pos c4] at hD
            exact cnt_pos (i := p1 + 1) (by omega) (by omega) (c5 (p1 + 1) (by omega) (by omega))
      · by_cases c : k < s.size
        · have := or_is.1 (hk' c)
          unfold tailOk at h
          rw [if_pos this] at h
          exact .inr ((expOk_iff (by omega)).1 h)
        · exact .inl (by omega)
  · rintro ⟨⟨m1, m2, m3⟩, mt⟩
    have hp1 : p1 ≤ k := by
      by_cases c : p1 ≤ k
      · exact c
      · have := dig_is.1 (d1 k hp0 (by omega)); omega
    have hkp : p2 = k := by
      rcases a5 with ⟨c3, c4⟩ | ⟨c3, c4, c5⟩
      · rw [c3]
        by_cases c : p1 < k
        · rcases m1 p1 g1 c with h | h
          · exact absurd (eq_is.1 h) c4
          · rw [h] at d2; cases d2
        · omega
      · have c6 : p1 < k := by
          by_cases c : p1 = k
          · subst c; omega
          · omega
        have c7 : ¬ k < p2 := by
          intro c
          have := dig_is.1 (c5 k c6 c); omega
        by_cases c : p2 < k
        · rcases m1 p2 (by omega) c with h | h
          · have := cnt_two (f := fun i => eqB s i 46) (n := k - p0) g1 c3 (by omega) (eq_is.2 c4) h
            omega
          · rw [h] at a3; cases a3
        · omega
    subst hkp
    obtain ⟨i, i1, i2, i3⟩ := cnt_ex m3
    have hD : ¬ p1 - p0 + nFrac s p1 = 0 := by
      intro hD
      rcases a5 with ⟨c3, c4⟩ | ⟨c3, c4, c5⟩
      · omega
      · rw [a4, if_pos c4] at hD
        have : i = p1 := by omega
        subst this
        have := dig_is.1 i3
        omega
    rw [if_neg hD]
    unfold tailOk
    by_cases c : p2 < s.size
    · have := or_is.1 (hk' c)
      rw [if_pos this]
      rcases mt with mt | mt
      · omega
      · exact (expOk_iff (by omega)).2 mt
    · have hn : ¬ (byt s p2 = 101 ∨ byt s p2 = 69) := by rw [byt_out c]; omega
      rw [if_neg hn]
      exact decide_eq_true (by omega)

end Go.Proofs.Qxb6605315a
