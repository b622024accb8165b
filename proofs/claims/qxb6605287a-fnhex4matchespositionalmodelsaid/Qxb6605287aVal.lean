/-
  b1HexVal: the digit's value, by a search in a table.
-/
import Derived.Test.Qxb6605287aHex
namespace Go.Proofs.Qxb6605287a
open Go.RowKit

def hexTab : ByteArray := ⟨#[48, 49, 50, 51, 52, 53, 54, 55, 56, 57, 97, 98, 99, 100, 101, 102, 65, 66, 67, 68, 69, 70]⟩

def tab (k : Nat) : Int := ((hexTab.data.toList.getD k 0).toNat : Int)
theorem tab_is {k : Nat} (hlt : k < 22) : (((⟨#[48, 49, 50, 51, 52, 53, 54, 55, 56, 57, 97, 98, 99, 100, 101, 102, 65, 66, 67, 68, 69, 70]⟩ : ByteArray)[k]'(by exact hlt)).toNat : Int) = tab k := by
  rcases (show k = 0 ∨ k = 1 ∨ k = 2 ∨ k = 3 ∨ k = 4 ∨ k = 5 ∨ k = 6 ∨ k = 7 ∨ k = 8 ∨ k = 9 ∨ k = 10 ∨ k = 11 ∨ k = 12 ∨ k = 13 ∨ k = 14 ∨ k = 15 ∨ k = 16 ∨ k = 17 ∨ k = 18 ∨ k = 19 ∨ k = 20 ∨ k = 21 by omega) with rfl | rfl | rfl | rfl | rfl | rfl | rfl | rfl | rfl | rfl | rfl | rfl | rfl | rfl | rfl | rfl | rfl | rfl | rfl | rfl | rfl | rfl <;> rfl
theorem tab_val {k : Nat} (h : k < 22) : hexd (tab k) = if (k : Int) < 16 then (k : Int) else (k : Int) - 6 := by
  rcases (show k = 0 ∨ k = 1 ∨ k = 2 ∨ k = 3 ∨ k = 4 ∨ k = 5 ∨ k = 6 ∨ k = 7 ∨ k = 8 ∨ k = 9 ∨ k = 10 ∨ k = 11 ∨ k = 12 ∨ k = 13 ∨ k = 14 ∨ k = 15 ∨ k = 16 ∨ k = 17 ∨ k = 18 ∨ k = 19 ∨ k = 20 ∨ k = 21 by omega) with rfl | rfl | rfl | rfl | rfl | rfl | rfl | rfl | rfl | rfl | rfl | rfl | rfl | rfl | rfl | rfl | rfl | rfl | rfl | rfl | rfl | rfl <;> rfl
theorem tab_none {c : Int} (h : ∀ k, k < 22 → tab k ≠ c) : hexd c = -1 := by
  have t0 : tab 0 = 48 ∧ tab 1 = 49 ∧ tab 2 = 50 ∧ tab 3 = 51 ∧ tab 4 = 52 ∧ tab 5 = 53 ∧ tab 6 = 54 ∧ tab 7 = 55 ∧ tab 8 = 56 ∧ tab 9 = 57 ∧ tab 10 = 97 ∧ tab 11 = 98 ∧ tab 12 = 99 ∧ tab 13 = 100 ∧ tab 14 = 101 ∧ tab 15 = 102 ∧ tab 16 = 65 ∧ tab 17 = 66 ∧ tab 18 = 67 ∧ tab 19 = 68 ∧ tab 20 = 69 ∧ tab 21 = 70 := by decide
  have h0 := h 0 (by omega)
  have h1 := h 1 (by omega)
  have h2 := h 2 (by omega)
  have h3 := h 3 (by omega)
  have h4 := h 4 (by omega)
  have h5 := h 5 (by omega)
  have h6 := h 6 (by omega)
  have h7 := h 7 (by omega)
  have h8 := h 8 (by omega)
  have h9 := h 9 (by omega)
  have h10 := h 10 (by omega)
  have h11 := h 11 (by omega)
  have h12 := h 12 (by omega)
  have h13 := h 13 (by omega)
  have h14 := h 14 (by omega)
  have h15 := h 15 (by omega)
  have h16 := h 16 (by omega)
  have h17 := h 17 (by omega)
  have h18 := h 18 (by omega)
  have h19 := h 19 (by omega)
  have h20 := h 20 (by omega)
  have h21 := h 21 (by omega)
  clear h
  unfold hexd
  rw [if_neg (by omega), if_neg (by omega), if_neg (by omega)]

set_option maxHeartbeats 1000000 in
theorem hexVal_any (c : Int) (w : World) :
    Calls Try.prog 10 #[.int .u8 c] w fun e w' => e = .returned (.int .i64 (hexd c)) ∧ w = w' := by
  go_enter Try.func10, Try.ntmps10
  go_wp2
  go_loop [3] (fun i => ∃ k : Nat, k ≤ 22 ∧ i = .int .i64 k ∧ ∀ j, j < k → tab j ≠ c) (fun i => 22 - (intOf i).toNat)
  case atStart => exact ⟨0, by omega, rfl, fun j h => by omega⟩
  case round =>
    obtain ⟨k, hk, rfl, hno⟩ := hrel
    have HNO : Hid (∀ j, j < k → tab j ≠ c) := hno
    clear hno
    by_cases hlt : k < 22
    · have HT : Hid ((((⟨#[48, 49, 50, 51, 52, 53, 54, 55, 56, 57, 97, 98, 99, 100, 101, 102, 65, 66, 67, 68, 69, 70]⟩ : ByteArray)[k]'(by exact hlt)).toNat : Int) = tab k) := tab_is hlt
      by_cases he : (((⟨#[48, 49, 50, 51, 52, 53, 54, 55, 56, 57, 97, 98, 99, 100, 101, 102, 65, 66, 67, 68, 69, 70]⟩ : ByteArray)[k]'(by exact hlt)).toNat : Int) = c
      · have HE : Hid (tab k = c) := HT.out.symm.trans he
        have he' : ((((⟨#[48, 49, 50, 51, 52, 53, 54, 55, 56, 57, 97, 98, 99, 100, 101, 102, 65, 66, 67, 68, 69, 70]⟩ : ByteArray)[k]'(by exact hlt)).toNat : Int) == c) = true := by simpa using he
        clear he
        by_cases h16 : (k : Int) < 16
        · go_wp2
          go_ret
          exact ⟨(show Ending.returned (.int .i64 (k : Int)) = _ by rw [← HE.out, tab_val hlt, if_pos h16]), rfl⟩
        · go_wp2
          go_ret
          exact ⟨(show Ending.returned (.int .i64 ((k : Int) - 6)) = _ by rw [← HE.out, tab_val hlt, if_neg (by omega)]), rfl⟩
      · have HE : Hid (tab k ≠ c) := fun h => he (HT.out.trans h)
        have he' : ((((⟨#[48, 49, 50, 51, 52, 53, 54, 55, 56, 57, 97, 98, 99, 100, 101, 102, 65, 66, 67, 68, 69, 70]⟩ : ByteArray)[k]'(by exact hlt)).toNat : Int) == c) = false := by simpa using he
        clear he
        go_wp2
        go_round
        case rel => exact ⟨k + 1, by omega, by go_num, fun j hj => by
          by_cases e : j = k
          · rw [e]; exact HE.out
          · exact HNO.out j (by omega)⟩
        case measure => simp [intOf]; omega
    · obtain rfl : k = 22 := by omega
      go_wp2
      go_ret
      exact ⟨(show Ending.returned (.int .i64 (-1)) = _ by rw [tab_none HNO.out]), rfl⟩
end Go.Proofs.Qxb6605287a
