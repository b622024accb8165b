/-
  hex4 and ZZHex4: their contracts.
-/
import Derived.Test.Qxb6605287aRows
import Derived.WalkKit
import Derived.WalkLawsBesides
import Derived.WalkSpells
import Derived.Laws.BitsAllLaws
import Derived.Deep.DeepCutAuto
namespace Go.Proofs.Qxb6605287a
open Go.RowKit

/-- One digit's value; -1 where it is none. -/
def hexd (z : Int) : Int := if 48 ≤ z ∧ z ≤ 57 then z - 48 else if 97 ≤ z ∧ z ≤ 102 then z - 87 else if 65 ≤ z ∧ z ≤ 70 then z - 55 else -1

theorem hex4_short (a : Option Addr) (n c : Nat) (w : World) (h : n < 4) :
    Calls Try.prog 17 #[.slice a n c] w fun e w' => e = .returned (.tuple #[.int .i32 0, .bool false]) ∧ w' = w := by
  go_enter Try.func17, Try.ntmps17
  go_wp2
  go_ret2
  exact ⟨rfl, rfl⟩

def hacc (z : Nat → Int) : Nat → Int
  | 0 => 0
  | k + 1 => hacc z k * 16 + hexd (z k)
theorem hexd_lt (x : Int) : -1 ≤ hexd x ∧ hexd x ≤ 15 := by unfold hexd; split <;> (try split) <;> (try split) <;> omega
theorem hacc_bd (z : Nat → Int) (k : Nat) (hk : k ≤ 4) (h : ∀ i, i < k → 0 ≤ hexd (z i)) : 0 ≤ hacc z k ∧ hacc z k < 65536 ∧ (k ≤ 3 → hacc z k < 4096) := by
  have h0 : hacc z 0 = 0 := rfl
  have h1 : hacc z 1 = hacc z 0 * 16 + hexd (z 0) := rfl
  have h2 : hacc z 2 = hacc z 1 * 16 + hexd (z 1) := rfl
  have h3 : hacc z 3 = hacc z 2 * 16 + hexd (z 2) := rfl
  have h4 : hacc z 4 = hacc z 3 * 16 + hexd (z 3) := rfl
  have b0 := hexd_lt (z 0)
  have b1 := hexd_lt (z 1)
  have b2 := hexd_lt (z 2)
  have b3 := hexd_lt (z 3)
  rcases (show k = 0 ∨ k = 1 ∨ k = 2 ∨ k = 3 ∨ k = 4 by omega) with rfl | rfl | rfl | rfl | rfl
  · omega
  · have := h 0 (by omega); omega
  · have := h 0 (by omega); have := h 1 (by omega); omega
  · have := h 0 (by omega); have := h 1 (by omega); have := h 2 (by omega); omega
  · have := h 0 (by omega); have := h 1 (by omega); have := h 2 (by omega); have := h 3 (by omega); omega

theorem ofInt_i32 (a : Nat) (ha : a < 2147483648) : (BitVec.ofInt 32 (a : Int)).toNat = a := by
  rw [BitVec.toNat_ofInt]; omega
theorem i32_join (r d : Int) (h1 : 0 ≤ r) (h2 : r < 4096) (h3 : 0 ≤ d) (h4 : d < 16) : bits .or .i32 (r * 16) d = r * 16 + d := by
  obtain ⟨m, rfl⟩ : ∃ m : Nat, r = m := ⟨r.toNat, by omega⟩
  obtain ⟨e, rfl⟩ : ∃ e : Nat, d = e := ⟨d.toNat, by omega⟩
  have hj := nat_join 4 (m * 16) e (by omega) (by omega)
  show IntKind.i32.wrap ((BitVec.ofInt 32 ((m : Int) * 16) ||| BitVec.ofInt 32 (e : Int)).toNat : Int) = _
  rw [show ((m : Int) * 16) = ((m * 16 : Nat) : Int) by omega, BitVec.toNat_or, ofInt_i32 _ (by omega), ofInt_i32 _ (by omega), hj]
  rw [IntKind.wrap_i32]
  omega
/-- What hex4 answers. -/
def hexRes (z : Nat → Int) : Value := if 0 ≤ hexd (z 0) ∧ 0 ≤ hexd (z 1) ∧ 0 ≤ hexd (z 2) ∧ 0 ≤ hexd (z 3) then .tuple #[.int .i32 (hacc z 4), .bool true] else .tuple #[.int .i32 0, .bool false]
theorem hexRes_yes {z : Nat → Int} (h : ∀ i, i < 4 → 0 ≤ hexd (z i)) : hexRes z = .tuple #[.int .i32 (hacc z 4), .bool true] := by
  rw [hexRes, if_pos ⟨h 0 (by omega), h 1 (by omega), h 2 (by omega), h 3 (by omega)⟩]
theorem hexRes_no {z : Nat → Int} {k : Nat} (hk : k < 4) (h : hexd (z k) < 0) : hexRes z = .tuple #[.int .i32 0, .bool false] := by
  rw [hexRes, if_neg]
  rintro ⟨a, b, c, d⟩
  rcases (show k = 0 ∨ k = 1 ∨ k = 2 ∨ k = 3 by omega) with rfl | rfl | rfl | rfl <;> omega

set_option maxHeartbeats 1000000 in
theorem hex4_any (b off n c : Nat) (z : Nat → Int) (w : World) (h : 4 ≤ n) (hnc : n ≤ c) (hc : c ≤ maxLen) (hcell : ∀ i, i < 4 → w.cell? ⟨b, off + i, none⟩ = some (.int .u8 (z i))) (hz : ∀ i, 0 ≤ z i ∧ z i ≤ 255) :
    Calls Try.prog 17 #[.slice (some ⟨b, off, none⟩) n c] w fun e w' => e = .returned (hexRes z) ∧ w' = w := by
  unfold maxLen at hc
  go_enter Try.func17, Try.ntmps17
  go_wp2
  go_loop [4, 13] (fun r i => ∃ k : Nat, k ≤ 4 ∧ i = .int .i64 k ∧ r = .int .i32 (hacc z k) ∧ ∀ i, i < k → 0 ≤ hexd (z i)) (fun _ i => 4 - (intOf i).toNat)
  case atStart => exact ⟨0, by omega, rfl, rfl, fun i h => by omega⟩
  case round =>
    obtain ⟨k, hk, rfl, rfl, hall⟩ := hrel
    obtain ⟨b1, b2, b3⟩ := hacc_bd z k hk hall
    have HALL : Hid (∀ i, i < k → 0 ≤ hexd (z i)) := hall
    obtain ⟨r, hr⟩ : ∃ r, r = hacc z k := ⟨_, rfl⟩
    rw [← hr] at b1 b2 b3 ⊢
    have HR : Hid (r = hacc z k) := hr
    clear hall hr
    by_cases hlt : k < 4
    · have hck := hcell k hlt
      obtain ⟨z1, z2⟩ := hz k
      have b4 := b3 (by omega)
      obtain ⟨x, hx⟩ : ∃ x, x = z k := ⟨_, rfl⟩
      rw [← hx] at hck z1 z2
      have HX : Hid (x = z k) := hx
      clear hx hcell hz b3
      rcases (show x < 48 ∨ (48 ≤ x ∧ x ≤ 57) ∨ (57 < x ∧ x < 65) ∨ (65 ≤ x ∧ x ≤ 70) ∨ (70 < x ∧ x < 97) ∨ (97 ≤ x ∧ x ≤ 102) ∨ 102 < x by omega) with c1 | ⟨c1, c2⟩ | ⟨c1, c2⟩ | ⟨c1, c2⟩ | ⟨c1, c2⟩ | ⟨c1, c2⟩ | c1
      · go_wp2
        go_ret2
        have hd : hexd x = -1 := by unfold hexd; split <;> (try split) <;> (try split) <;> omega
        exact ⟨congrArg Ending.returned (hexRes_no hlt (by rw [← HX.out, hd]; omega)).symm, rfl⟩
      · go_wp2
        go_round
        case rel =>
          have hd : hexd x = x - 48 := by unfold hexd; split <;> (try split) <;> (try split) <;> omega
          refine ⟨k + 1, by omega, by go_num, ?_, fun i hi => ?_⟩
          · rw [i32_join r (x - 48) b1 b4 (by omega) (by omega), hacc, ← HR.out, ← HX.out, hd]
          · by_cases e : i = k
            · rw [e, ← HX.out, hd]; omega
            · exact HALL.out i (by omega)
        case measure => simp [intOf]; omega
      · go_wp2
        go_ret2
        have hd : hexd x = -1 := by unfold hexd; split <;> (try split) <;> (try split) <;> omega
        exact ⟨congrArg Ending.returned (hexRes_no hlt (by rw [← HX.out, hd]; omega)).symm, rfl⟩
      · go_wp2
        go_round
        case rel =>
          have hd : hexd x = x - 55 := by unfold hexd; split <;> (try split) <;> (try split) <;> omega
          refine ⟨k + 1, by omega, by go_num, ?_, fun i hi => ?_⟩
          · rw [i32_join r (x - 55) b1 b4 (by omega) (by omega), hacc, ← HR.out, ← HX.out, hd]
          · by_cases e : i = k
            · rw [e, ← HX.out, hd]; omega
            · exact HALL.out i (by omega)
        case measure => simp [intOf]; omega
      · go_wp2
        go_ret2
        have hd : hexd x = -1 := by unfold hexd; split <;> (try split) <;> (try split) <;> omega
        exact ⟨congrArg Ending.returned (hexRes_no hlt (by rw [← HX.out, hd]; omega)).symm, rfl⟩
      · go_wp2
        go_round
        case rel =>
          have hd : hexd x = x - 87 := by unfold hexd; split <;> (try split) <;> (try split) <;> omega
          refine ⟨k + 1, by omega, by go_num, ?_, fun i hi => ?_⟩
          · rw [i32_join r (x - 87) b1 b4 (by omega) (by omega), hacc, ← HR.out, ← HX.out, hd]
          · by_cases e : i = k
            · rw [e, ← HX.out, hd]; omega
            · exact HALL.out i (by omega)
        case measure => simp [intOf]; omega
      · go_wp2
        go_ret2
        have hd : hexd x = -1 := by unfold hexd; split <;> (try split) <;> (try split) <;> omega
        exact ⟨congrArg Ending.returned (hexRes_no hlt (by rw [← HX.out, hd]; omega)).symm, rfl⟩
    · obtain rfl : k = 4 := by omega
      go_wp2
      go_ret2
      exact ⟨(show Ending.returned (.tuple #[.int .i32 r, .bool true]) = _ by rw [hexRes_yes HALL.out, ← HR.out]), rfl⟩

theorem zzHex4_short (a : Option Addr) (n c : Nat) (w : World) (h : n < 4) :
    Calls Try.prog 9 #[.slice a n c] w fun e w' => e = .returned (.tuple #[.int .i32 0, .bool false]) ∧ w' = w := by
  go_enter Try.func9, Try.ntmps9
  go_wp2_with (go_at_call 17; refine (hex4_short _ _ _ _ h).mono ?_; rintro e w' ⟨rfl, rfl⟩)
  go_ret2
  exact ⟨rfl, rfl⟩
theorem hex4_yes (b off n c : Nat) (z : Nat → Int) (w : World) (h : 4 ≤ n) (hnc : n ≤ c) (hc : c ≤ maxLen) (hcell : ∀ i, i < 4 → w.cell? ⟨b, off + i, none⟩ = some (.int .u8 (z i))) (hz : ∀ i, 0 ≤ z i ∧ z i ≤ 255) (hh : ∀ i, i < 4 → 0 ≤ hexd (z i)) :
    Calls Try.prog 17 #[.slice (some ⟨b, off, none⟩) n c] w fun e w' => e = .returned (.tuple #[.int .i32 (hacc z 4), .bool true]) ∧ w' = w := by
  rw [← hexRes_yes hh]
  exact hex4_any b off n c z w h hnc hc hcell hz
theorem hex4_no (b off n c k : Nat) (z : Nat → Int) (w : World) (h : 4 ≤ n) (hnc : n ≤ c) (hc : c ≤ maxLen) (hcell : ∀ i, i < 4 → w.cell? ⟨b, off + i, none⟩ = some (.int .u8 (z i))) (hz : ∀ i, 0 ≤ z i ∧ z i ≤ 255) (hk : k < 4) (hh : hexd (z k) < 0) :
    Calls Try.prog 17 #[.slice (some ⟨b, off, none⟩) n c] w fun e w' => e = .returned (.tuple #[.int .i32 0, .bool false]) ∧ w' = w := by
  rw [← hexRes_no hk hh]
  exact hex4_any b off n c z w h hnc hc hcell hz
theorem zzHex4_yes (b off n c : Nat) (z : Nat → Int) (w : World) (h : 4 ≤ n) (hnc : n ≤ c) (hc : c ≤ maxLen) (hcell : ∀ i, i < 4 → w.cell? ⟨b, off + i, none⟩ = some (.int .u8 (z i))) (hz : ∀ i, 0 ≤ z i ∧ z i ≤ 255) (hh : ∀ i, i < 4 → 0 ≤ hexd (z i)) :
    Calls Try.prog 9 #[.slice (some ⟨b, off, none⟩) n c] w fun e w' => e = .returned (.tuple #[.int .i32 (hacc z 4), .bool true]) ∧ w' = w := by
  go_enter Try.func9, Try.ntmps9
  go_wp2_with fail
  refine (hex4_yes b off n c z w h hnc hc hcell hz hh).mono ?_
  rintro e w' ⟨rfl, rfl⟩
  go_wp2
  go_ret2
  exact ⟨rfl, rfl⟩
theorem zzHex4_no (b off n c k : Nat) (z : Nat → Int) (w : World) (h : 4 ≤ n) (hnc : n ≤ c) (hc : c ≤ maxLen) (hcell : ∀ i, i < 4 → w.cell? ⟨b, off + i, none⟩ = some (.int .u8 (z i))) (hz : ∀ i, 0 ≤ z i ∧ z i ≤ 255) (hk : k < 4) (hh : hexd (z k) < 0) :
    Calls Try.prog 9 #[.slice (some ⟨b, off, none⟩) n c] w fun e w' => e = .returned (.tuple #[.int .i32 0, .bool false]) ∧ w' = w := by
  go_enter Try.func9, Try.ntmps9
  go_wp2_with fail
  refine (hex4_no b off n c k z w h hnc hc hcell hz hk hh).mono ?_
  rintro e w' ⟨rfl, rfl⟩
  go_wp2
  go_ret2
  exact ⟨rfl, rfl⟩
end Go.Proofs.Qxb6605287a
