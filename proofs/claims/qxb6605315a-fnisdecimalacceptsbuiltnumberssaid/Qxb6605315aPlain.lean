/-
  PLAIN FUNCTIONS OF THE SEAT b6605315a: no Go in sight. What isDecimal and zzDecimalGrammar compute, by places in the text.
-/
import Derived.WalkKit
namespace Go.Proofs.Qxb6605315a

/-- The byte at place i; 0 behind the end. -/
def byt (s : ByteArray) (i : Nat) : Nat := if h : i < s.size then (s[i]'h).toNat else 0
theorem byt_in {s : ByteArray} {i : Nat} (h : i < s.size) : byt s i = (s[i]'h).toNat := by simp [byt, h]
theorem byt_out {s : ByteArray} {i : Nat} (h : ¬ i < s.size) : byt s i = 0 := by simp [byt, h]
theorem byt_pos {s : ByteArray} {i : Nat} (h : 0 < byt s i) : i < s.size := by
  by_cases hi : i < s.size
  · exact hi
  · rw [byt_out hi] at h; omega

/-- A digit lies at place i. -/
def digAt (s : ByteArray) (i : Nat) : Bool := decide (48 ≤ byt s i ∧ byt s i ≤ 57)

def runF (s : ByteArray) : Nat → Nat → Nat
  | 0, p => p
  | f + 1, p => if digAt s p then runF s f (p + 1) else p
/-- Where the run of digits that begins at p ends. -/
def runEnd (s : ByteArray) (p : Nat) : Nat := runF s (s.size - p) p

theorem digAt_lt {s : ByteArray} {p : Nat} (h : digAt s p = true) : p < s.size := by
  simp only [digAt, decide_eq_true_eq] at h
  exact byt_pos (by omega)
theorem runEnd_step {s : ByteArray} {p : Nat} (h : digAt s p = true) : runEnd s p = runEnd s (p + 1) := by
  have hp := digAt_lt h
  unfold runEnd
  obtain ⟨f, hf⟩ : ∃ f, s.size - p = f + 1 := ⟨s.size - p - 1, by omega⟩
  rw [hf, show s.size - (p + 1) = f from by omega, runF, if_pos h]
theorem runEnd_stop {s : ByteArray} {p : Nat} (h : digAt s p = false) : runEnd s p = p := by
  unfold runEnd
  cases s.size - p with
  | zero => rfl
  | succ f => rw [runF, h]; rfl
theorem runEnd_ge (s : ByteArray) (p : Nat) : p ≤ runEnd s p := by
  unfold runEnd
  have : ∀ f p, p ≤ runF s f p := by
    intro f
    induction f with
    | zero => intro p; exact Nat.le_refl _
    | succ f ih =>
      intro p
      rw [runF]
      split
      · have := ih (p + 1); omega
      · exact Nat.le_refl _
  exact this _ _
theorem runEnd_le {s : ByteArray} {p : Nat} (h : p ≤ s.size) : runEnd s p ≤ s.size := by
  unfold runEnd
  have : ∀ f p, p ≤ s.size → runF s f p ≤ s.size := by
    intro f
    induction f with
    | zero => intro p hp; exact hp
    | succ f ih =>
      intro p hp
      rw [runF]
      split
      · rename_i hd; exact ih (p + 1) (digAt_lt hd)
      · exact hp
  exact this _ _ h
theorem runEnd_digs (s : ByteArray) (p : Nat) : (∀ i, p ≤ i → i < runEnd s p → digAt s i = true) ∧ digAt s (runEnd s p) = false := by
  unfold runEnd
  have : ∀ f p, s.size - p ≤ f → (∀ i, p ≤ i → i < runF s f p → digAt s i = true) ∧ digAt s (runF s f p) = false := by
    intro f
    induction f with
    | zero =>
      intro p hf
      refine ⟨fun i h1 h2 => by simp only [runF] at h2; omega, ?_⟩
      rw [runF]
      cases hd : digAt s p with
      | false => rfl
      | true => have := digAt_lt hd; omega
    | succ f ih =>
      intro p hf
      rw [runF]
      cases hd : digAt s p with
      | false => simp only [Bool.false_eq_true, if_false]; exact ⟨fun i h1 h2 => by omega, hd⟩
      | true =>
        simp only [if_true]
        have hp := digAt_lt hd
        obtain ⟨h1, h2⟩ := ih (p + 1) (by omega)
        refine ⟨fun i g1 g2 => ?_, h2⟩
        by_cases e : i = p
        · rw [e]; exact hd
        · exact h1 i (by omega) g2
  exact this _ _ (Nat.le_refl _)

/-- Behind an optional '-'. -/
def pMinus (s : ByteArray) : Nat := if byt s 0 = 45 then 1 else 0
/-- Behind the mantissa, whose integer part ends at p. -/
def pDot (s : ByteArray) (p : Nat) : Nat := if byt s p = 46 then runEnd s (p + 1) else p
/-- How many digits the fraction has. -/
def nFrac (s : ByteArray) (p : Nat) : Nat := if byt s p = 46 then runEnd s (p + 1) - (p + 1) else 0
/-- Behind an optional sign. -/
def pSign (s : ByteArray) (p : Nat) : Nat := if byt s p = 45 ∨ byt s p = 43 then p + 1 else p
/-- The exponent, its mark at p - 1, reads to the end. -/
def expOk (s : ByteArray) (p : Nat) : Bool :=
  decide (1 ≤ runEnd s (pSign s p) - pSign s p ∧ runEnd s (pSign s p) - pSign s p ≤ 3 ∧ runEnd s (pSign s p) = s.size)
/-- From the mantissa's end on. -/
def tailOk (s : ByteArray) (p : Nat) : Bool :=
  if byt s p = 101 ∨ byt s p = 69 then expOk s (p + 1) else decide (p = s.size)
/-- What isDecimal computes. -/
def isDec (s : ByteArray) : Bool :=
  if runEnd s (pMinus s) - pMinus s + nFrac s (runEnd s (pMinus s)) = 0 then false else tailOk s (pDot s (runEnd s (pMinus s)))

end Go.Proofs.Qxb6605315a
