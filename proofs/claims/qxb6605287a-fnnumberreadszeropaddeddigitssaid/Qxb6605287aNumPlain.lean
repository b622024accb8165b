/-
  PLAIN FUNCTIONS FOR number: the value of a text's first digits, from the left and from the right. No Go in sight.
-/
import Derived.WalkKit
namespace Go.Proofs.Qxb6605287a
open Go.RowKit

/-- The byte at place i; 0 behind the end. -/
def byt (s : ByteArray) (i : Nat) : Nat := if h : i < s.size then (s[i]'h).toNat else 0
theorem byt_in {s : ByteArray} {i : Nat} (h : i < s.size) : byt s i = (s[i]'h).toNat := by simp [byt, h]
def digAt (s : ByteArray) (i : Nat) : Prop := 48 ≤ byt s i ∧ byt s i ≤ 57

/-- The first k digits, read from the left: the whole number, unbounded. -/
def hor (s : ByteArray) : Nat → Int
  | 0 => 0
  | k + 1 => 10 * hor s k + ((byt s k : Int) - 48)
/-- The last t of the first m digits, by place weights. -/
def rtl (s : ByteArray) (m : Nat) : Nat → Int
  | 0 => 0
  | t + 1 => rtl s m t + ((byt s (m - 1 - t) : Int) - 48) * 10 ^ t
theorem hor_rtl (s : ByteArray) (m : Nat) : ∀ t, t ≤ m → hor s m = hor s (m - t) * 10 ^ t + rtl s m t := by
  intro t
  induction t with
  | zero => intro _; simp [rtl]
  | succ t ih =>
    intro h
    rw [ih (by omega)]
    obtain ⟨k, hk⟩ : ∃ k, m - t = k + 1 := ⟨m - t - 1, by omega⟩
    rw [hk, hor, rtl, show m - (t + 1) = k by omega, show m - 1 - t = k by omega, Int.pow_succ]
    rw [Int.add_mul, show hor s k * (10 ^ t * 10) = 10 * hor s k * 10 ^ t by rw [← Int.mul_assoc, Int.mul_comm (hor s k * 10 ^ t) 10, Int.mul_assoc]]
    omega
theorem hor_rtl_all (s : ByteArray) (m : Nat) : rtl s m m = hor s m := by
  have := hor_rtl s m m (Nat.le_refl _)
  rw [Nat.sub_self, hor, Int.zero_mul, Int.zero_add] at this
  exact this.symm

theorem wrap64_mod (a : Int) : ∃ q, wrap64 a = a + q * 18446744073709551616 := by
  unfold wrap64
  exact ⟨-((a + 9223372036854775808) / 18446744073709551616), by omega⟩
theorem wrap64_congr {a b q : Int} (h : a = b + q * 18446744073709551616) : wrap64 a = wrap64 b := by
  unfold wrap64; omega
theorem wrap64_step (r d : Int) : wrap64 (wrap64 (10 * wrap64 r) + d) = wrap64 (10 * r + d) := by
  obtain ⟨q1, h1⟩ := wrap64_mod r
  obtain ⟨q2, h2⟩ := wrap64_mod (10 * wrap64 r)
  exact wrap64_congr (q := q2 + 10 * q1) (by rw [h2, h1]; omega)
theorem wrap64_place (v p d : Int) : wrap64 (wrap64 v + wrap64 (d * wrap64 p)) = wrap64 (v + d * p) := by
  obtain ⟨q1, h1⟩ := wrap64_mod v
  obtain ⟨q2, h2⟩ := wrap64_mod (d * wrap64 p)
  obtain ⟨q3, h3⟩ := wrap64_mod p
  refine wrap64_congr (q := q1 + q2 + d * q3) ?_
  rw [h2, h1, h3, Int.mul_add, Int.add_mul, Int.add_mul, Int.mul_assoc]
  omega
theorem wrap64_ten (p : Int) : wrap64 (wrap64 p * 10) = wrap64 (p * 10) := by
  obtain ⟨q1, h1⟩ := wrap64_mod p
  exact wrap64_congr (q := 10 * q1) (by rw [h1]; omega)
theorem wrap64_id {a : Int} (h1 : -9223372036854775808 ≤ a) (h2 : a ≤ 9223372036854775807) : wrap64 a = a := by unfold wrap64; omega
end Go.Proofs.Qxb6605287a
