/-
  THE PLAIN LAW OF THE BUILT NUMBERS: what isDec says of a text put together from its parts. No Go in sight.
-/
import Derived.Test.Qxb6605315aDec
import Derived.Laws.BytesArg
namespace Go.Proofs.Qxb6605315a

/-- From place p on the text reads l, to its end. -/
def At (s : ByteArray) (p : Nat) (l : List Int) : Prop := p + l.length = s.size ∧ ∀ i, byt s (p + i) = (l.getD i 0).toNat
def Digs (ds : List Int) : Prop := ∀ d ∈ ds, 48 ≤ d ∧ d ≤ 57
def Byts (ds : List Int) : Prop := ∀ d ∈ ds, 0 ≤ d ∧ d ≤ 255

theorem at_str {T : List Int} (h : Byts T) : At (strOfNums T) 0 T := by
  refine ⟨by rw [strOfNums_size]; simp, fun i => ?_⟩
  rw [Nat.zero_add]
  by_cases hi : i < T.length
  · have hs : i < (strOfNums T).size := by rw [strOfNums_size]; exact hi
    have hb := h T[i] (List.getElem_mem hi)
    rw [byt_in hs]
    have e : (strOfNums T)[i] = UInt8.ofNat (T[i]).toNat := by
      show (strOfNums T).data[i] = _
      simp [strOfNums]
    have e2 : T.getD i 0 = T[i] := by simp [List.getD, hi]
    rw [e, e2]
    simp; omega
  · rw [byt_out (by rw [strOfNums_size]; exact hi)]
    simp [List.getD, List.getElem?_eq_none (show T.length ≤ i by omega)]
theorem At.head {s : ByteArray} {p : Nat} {l : List Int} (h : At s p l) : byt s p = (l.headD 0).toNat := by
  have := h.2 0
  rw [Nat.add_zero] at this
  rw [this]
  cases l <;> rfl
theorem At.tail {s : ByteArray} {p : Nat} {x : Int} {l : List Int} (h : At s p (x :: l)) : At s (p + 1) l := by
  refine ⟨by have := h.1; simp at this; omega, fun i => ?_⟩
  have := h.2 (i + 1)
  rw [show p + (i + 1) = p + 1 + i by omega] at this
  rw [this]; rfl
theorem At.digs {s : ByteArray} {l : List Int} (hl : ¬ (48 ≤ l.headD 0 ∧ l.headD 0 ≤ 57)) :
    ∀ (ds : List Int) (p : Nat), Digs ds → At s p (ds ++ l) → runEnd s p = p + ds.length ∧ At s (p + ds.length) l := by
  intro ds
  induction ds with
  | nil =>
    intro p _ h
    refine ⟨runEnd_stop ?_, h⟩
    have e : byt s p = (l.headD 0).toNat := At.head h
    unfold digAt
    rw [e]
    exact decide_eq_false (by omega)
  | cons d ds ih =>
    intro p hd h
    have h1 := hd d (List.mem_cons_self ..)
    have e : byt s p = d.toNat := At.head h
    obtain ⟨i1, i2⟩ := ih (p + 1) (fun x hx => hd x (List.mem_cons_of_mem _ hx)) h.tail
    have hdig : digAt s p = true := by
      unfold digAt
      rw [e]
      exact decide_eq_true (by omega)
    refine ⟨?_, ?_⟩
    · rw [runEnd_step hdig, i1]; simp; omega
    · rw [show p + (d :: ds).length = p + 1 + ds.length by simp; omega]; exact i2

theorem dec_eval {s : ByteArray} {A D1 F D2 X : List Int} (h : At s 0 (A ++ (D1 ++ (F ++ X)))) (hA : A = [] ∧ (D1 ++ (F ++ X)).headD 0 ≠ 45 ∨ A = [45]) (hD1 : Digs D1)
    (hF : F = [] ∧ X.headD 0 ≠ 46 ∧ D2 = [] ∨ F = 46 :: D2) (hD2 : Digs D2) (hX : ¬ (48 ≤ X.headD 0 ∧ X.headD 0 ≤ 57)) :
    ∃ p, At s p X ∧ isDec s = (if D1.length + D2.length = 0 then false else tailOk s p) := by
  obtain ⟨p0, hp0, h0⟩ : ∃ p0, p0 = pMinus s ∧ At s p0 (D1 ++ (F ++ X)) := by
    refine ⟨_, rfl, ?_⟩
    have e := At.head h
    rcases hA with ⟨rfl, hh⟩ | rfl
    · rw [List.nil_append] at e h
      rw [pMinus, if_neg (by rw [e]; omega)]
      exact h
    · have e' : byt s 0 = 45 := e
      rw [pMinus, if_pos e']
      exact h.tail
  have hFX : ¬ (48 ≤ (F ++ X).headD 0 ∧ (F ++ X).headD 0 ≤ 57) := by
    rcases hF with ⟨rfl, _, _⟩ | rfl
    · exact hX
    · simp
  obtain ⟨r1, h1⟩ := At.digs hFX D1 p0 hD1 h0
  unfold isDec
  rw [← hp0, r1]
  have e1 := At.head h1
  rcases hF with ⟨rfl, hx, rfl⟩ | rfl
  · rw [List.nil_append] at e1 h1
    refine ⟨p0 + D1.length, h1, ?_⟩
    have hne : ¬ byt s (p0 + D1.length) = 46 := by rw [e1]; omega
    rw [nFrac, pDot, if_neg hne, if_neg hne]
    simp
  · have e46 : byt s (p0 + D1.length) = 46 := e1
    obtain ⟨r2, h2⟩ := At.digs hX D2 (p0 + D1.length + 1) hD2 h1.tail
    refine ⟨_, h2, ?_⟩
    rw [nFrac, pDot, if_pos e46, if_pos e46, r2]
    rw [show p0 + D1.length - p0 + (p0 + D1.length + 1 + D2.length - (p0 + D1.length + 1)) = D1.length + D2.length by omega]

theorem tail_nil {s : ByteArray} {p : Nat} (h : At s p []) : tailOk s p = true := by
  have e := h.1
  have b : byt s p = 0 := At.head h
  rw [tail_end (by rw [b]; omega)]
  exact decide_eq_true (by simpa using e)
theorem tail_other {s : ByteArray} {p : Nat} {c : Int} {r : List Int} (h : At s p (c :: r)) (hc : c ≠ 101 ∧ c ≠ 69) : tailOk s p = false := by
  have e := h.1
  have b : byt s p = c.toNat := At.head h
  rw [tail_end (by rw [b]; omega)]
  exact decide_eq_false (by simp at e; omega)
theorem tail_eval {s : ByteArray} {p : Nat} {c : Int} {sg D3 R : List Int} (h : At s p (c :: (sg ++ (D3 ++ R)))) (hc : c = 101 ∨ c = 69) (hsg : sg = [] ∨ sg = [43] ∨ sg = [45]) (hD : Digs D3) (h1 : 1 ≤ D3.length)
    (hR : ¬ (48 ≤ R.headD 0 ∧ R.headD 0 ≤ 57)) : tailOk s p = decide (D3.length ≤ 3 ∧ R = []) := by
  have b : byt s p = c.toNat := At.head h
  rw [tail_exp (by rw [b]; omega)]
  obtain ⟨q, hq, h2⟩ : ∃ q, q = pSign s (p + 1) ∧ At s q (D3 ++ R) := by
    refine ⟨_, rfl, ?_⟩
    have h1' := h.tail
    have e := At.head h1'
    rcases hsg with rfl | rfl | rfl
    · rw [List.nil_append] at e h1'
      have hd : 48 ≤ (D3 ++ R).headD 0 ∧ (D3 ++ R).headD 0 ≤ 57 := by
        cases D3 with
        | nil => simp at h1
        | cons d ds => exact hD d (List.mem_cons_self ..)
      rw [pSign, if_neg (by rw [e]; omega)]
      exact h1'
    · have e' : byt s (p + 1) = 43 := e
      rw [pSign, if_pos (.inr e')]
      exact h1'.tail
    · have e' : byt s (p + 1) = 45 := e
      rw [pSign, if_pos (.inl e')]
      exact h1'.tail
  obtain ⟨r, h3⟩ := At.digs hR D3 q hD h2
  have e3 := h3.1
  unfold expOk
  rw [← hq, r, Bool.eq_iff_iff]
  simp only [decide_eq_true_eq]
  constructor
  · rintro ⟨_, g2, g3⟩
    exact ⟨by omega, List.eq_nil_of_length_eq_zero (by omega)⟩
  · rintro ⟨g1, rfl⟩
    simp at e3
    exact ⟨by omega, by omega, by omega⟩

/-- An optional exponent. -/
def ExpPart (X : List Int) : Prop := X = [] ∨ ∃ (c : Int) (sg D3 : List Int), X = c :: (sg ++ D3) ∧ (c = 101 ∨ c = 69) ∧ (sg = [] ∨ sg = [43] ∨ sg = [45]) ∧ Digs D3 ∧ 1 ≤ D3.length ∧ D3.length ≤ 3
/-- An optional point with its digits. -/
def DotPart (hasDot hasFrac : Bool) (F D2 : List Int) : Prop := (hasDot = false ∧ F = [] ∧ D2 = [] ∨ hasDot = true ∧ F = 46 :: D2) ∧ Digs D2 ∧ (D2.length = 0 ↔ (hasDot && hasFrac) = false)
def IntPart (hasInt : Bool) (D1 : List Int) : Prop := Digs D1 ∧ (D1.length = 0 ↔ hasInt = false)
def negL (neg : Bool) : List Int := if neg then [45] else []

theorem exp_head {X : List Int} (h : ExpPart X) (U : List Int) (hU : ¬ (48 ≤ U.headD 0 ∧ U.headD 0 ≤ 57) ∧ U.headD 0 ≠ 45 ∧ U.headD 0 ≠ 46) :
    ¬ (48 ≤ (X ++ U).headD 0 ∧ (X ++ U).headD 0 ≤ 57) ∧ (X ++ U).headD 0 ≠ 45 ∧ (X ++ U).headD 0 ≠ 46 := by
  rcases h with rfl | ⟨c, sg, D3, rfl, hc, _⟩
  · exact hU
  · simp; omega

section
variable {hasInt hasDot hasFrac : Bool} {D1 F D2 X : List Int}

theorem count_zero (hI : IntPart hasInt D1) (hF : DotPart hasDot hasFrac F D2) : (D1.length + D2.length = 0) ↔ (hasInt || (hasDot && hasFrac)) = false := by
  have a := hI.2
  have b := hF.2.2
  rw [Bool.or_eq_false_iff, ← a, ← b]
  omega

/-- The text with an ending U, A ahead of it. -/
theorem eval_with (hI : IntPart hasInt D1) (hF : DotPart hasDot hasFrac F D2) (hX : ExpPart X) {s : ByteArray} (A U : List Int) (hU : ¬ (48 ≤ U.headD 0 ∧ U.headD 0 ≤ 57) ∧ U.headD 0 ≠ 45 ∧ U.headD 0 ≠ 46) (hA : A = [] ∨ A = [45])
    (h : At s 0 (A ++ (D1 ++ (F ++ (X ++ U))))) : ∃ p, At s p (X ++ U) ∧ isDec s = (if (hasInt || (hasDot && hasFrac)) = false then false else tailOk s p) := by
  obtain ⟨x1, x2, x3⟩ := exp_head hX U hU
  have hz := count_zero hI hF
  have := dec_eval (D2 := D2) h ?_ hI.1 ?_ hF.2.1 x1
  · obtain ⟨p, h1, h2⟩ := this
    refine ⟨p, h1, ?_⟩
    rw [h2]
    by_cases c : D1.length + D2.length = 0
    · rw [if_pos c, if_pos (hz.1 c)]
    · rw [if_neg c, if_neg (fun e => c (hz.2 e))]
  · rcases hA with rfl | rfl
    · left
      refine ⟨rfl, ?_⟩
      cases D1 with
      | cons d ds => have := hI.1 d (List.mem_cons_self ..); show d ≠ 45; omega
      | nil =>
        rcases hF.1 with ⟨_, rfl, _⟩ | ⟨_, rfl⟩
        · exact x2
        · show (46 : Int) ≠ 45; omega
    · exact .inr rfl
  · rcases hF.1 with ⟨_, rfl, rfl⟩ | ⟨_, rfl⟩
    · exact .inl ⟨rfl, x3, rfl⟩
    · exact .inr rfl

theorem text_plain (hI : IntPart hasInt D1) (hF : DotPart hasDot hasFrac F D2) (hX : ExpPart X) {s : ByteArray} (A : List Int) (hA : A = [] ∨ A = [45]) (h : At s 0 (A ++ (D1 ++ (F ++ X)))) :
    isDec s = (hasInt || (hasDot && hasFrac)) := by
  obtain ⟨p, h1, h2⟩ := eval_with hI hF hX A [] (by simp) hA (by simpa using h)
  rw [List.append_nil] at h1
  have ht : tailOk s p = true := by
    rcases hX with rfl | ⟨c, sg, D3, rfl, hc, hsg, hD, g1, g2⟩
    · exact tail_nil h1
    · rw [tail_eval (R := []) (by simpa using h1) hc hsg hD g1 (by simp)]
      exact decide_eq_true ⟨g2, rfl⟩
  rw [h2, ht]
  cases (hasInt || (hasDot && hasFrac)) <;> rfl

theorem text_x (hI : IntPart hasInt D1) (hF : DotPart hasDot hasFrac F D2) (hX : ExpPart X) {s : ByteArray} (A : List Int) (hA : A = [] ∨ A = [45]) (h : At s 0 ((A ++ (D1 ++ (F ++ X))) ++ [120])) : isDec s = false := by
  obtain ⟨p, h1, h2⟩ := eval_with hI hF hX A [120] (by simp) hA (by simpa using h)
  have ht : tailOk s p = false := by
    rcases hX with rfl | ⟨c, sg, D3, rfl, hc, hsg, hD, g1, g2⟩
    · exact tail_other h1 (by omega)
    · rw [tail_eval (R := [120]) (by simpa using h1) hc hsg hD g1 (by simp)]
      simp
  rw [h2, ht]
  split <;> rfl

theorem text_e1000 (hI : IntPart hasInt D1) (hF : DotPart hasDot hasFrac F D2) (hX : ExpPart X) {s : ByteArray} (A : List Int) (hA : A = [] ∨ A = [45]) (h : At s 0 ((A ++ (D1 ++ (F ++ X))) ++ [101, 49, 48, 48, 48])) : isDec s = false := by
  obtain ⟨p, h1, h2⟩ := eval_with hI hF hX A [101, 49, 48, 48, 48] (by simp) hA (by simpa using h)
  have ht : tailOk s p = false := by
    rcases hX with rfl | ⟨c, sg, D3, rfl, hc, hsg, hD, g1, g2⟩
    · rw [tail_eval (sg := []) (D3 := [49, 48, 48, 48]) (R := []) h1 (.inl rfl) (.inl rfl) (by intro d hd; simp at hd; omega) (by simp) (by simp)]
      simp
    · rw [tail_eval (R := [101, 49, 48, 48, 48]) (by simpa using h1) hc hsg hD g1 (by simp)]
      simp
  rw [h2, ht]
  split <;> rfl

/-- A text that begins (behind an optional '-') with what is neither digit nor point is no number. -/
theorem text_bad {s : ByteArray} {c : Int} {T A : List Int} (hA : A = [] ∧ c ≠ 45 ∨ A = [45]) (hc : ¬ (48 ≤ c ∧ c ≤ 57) ∧ c ≠ 46) (h : At s 0 (A ++ (c :: T))) : isDec s = false := by
  obtain ⟨p, _, h2⟩ := dec_eval (A := A) (D1 := []) (F := []) (D2 := []) (X := c :: T) h (by rcases hA with ⟨a, b⟩ | a; exact .inl ⟨a, b⟩; exact .inr a) (by intro d hd; simp at hd) (.inl ⟨rfl, hc.2, rfl⟩) (by intro d hd; simp at hd) hc.1
  rw [h2]; rfl
end

theorem text_minus {neg hasInt hasDot hasFrac : Bool} {D1 F D2 X : List Int} (hI : IntPart hasInt D1) (hF : DotPart hasDot hasFrac F D2) (hX : ExpPart X) {s : ByteArray} (h : At s 0 (45 :: (negL neg ++ (D1 ++ (F ++ X))))) :
    isDec s = ((hasInt || (hasDot && hasFrac)) && !neg) := by
  cases neg with
  | true =>
    rw [text_bad (A := [45]) (c := 45) (T := D1 ++ (F ++ X)) (.inr rfl) (by omega) h]; simp
  | false =>
    rw [text_plain hI hF hX [45] (.inr rfl) h]; simp

theorem str_append (x y : List Int) : strOfNums x ++ strOfNums y = strOfNums (x ++ y) := by
  unfold strOfNums
  rw [ByteArray.mk_append_mk, List.map_append]
theorem Byts.append {x y : List Int} (hx : Byts x) (hy : Byts y) : Byts (x ++ y) := by
  intro d hd
  rcases List.mem_append.1 hd with h | h
  · exact hx d h
  · exact hy d h
theorem Digs.byts {x : List Int} (h : Digs x) : Byts x := fun d hd => by have := h d hd; omega
end Go.Proofs.Qxb6605315a
