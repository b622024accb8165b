/-
  THE WALK OF FnNumberMatchesRightToLeftModel.
-/
import Derived.Test.Qxb6605287aNum
namespace Go.Proofs.Qxb6605287a
open Go.RowKit

theorem zzBytes12_any (s : ByteArray) (ok : Bool) (m lo hi : Int) (w : World) (h : s.size ≤ 1048576) :
    Calls Try.prog 12 #[.string s, .bool ok, .int .i64 m, .int .i64 lo, .int .i64 hi] w fun e w' => e = .returned (.bool true) ∧ w = w' := by
  go_enter Try.func12, Try.ntmps12
  go_wp2
  go_ret
  exact ⟨rfl, rfl⟩
theorem zzBytes12_no (s : ByteArray) (ok : Bool) (m lo hi : Int) (w : World) (h : 1048576 < s.size) :
    Calls Try.prog 12 #[.string s, .bool ok, .int .i64 m, .int .i64 lo, .int .i64 hi] w fun e w' => e = .returned (.bool false) ∧ w = w' := by
  go_enter Try.func12, Try.ntmps12
  go_wp2
  go_ret
  exact ⟨rfl, rfl⟩
theorem isDigit_yes (x : Int) (w : World) (h1 : 48 ≤ x) (h2 : x ≤ 57) : Calls Try.prog 14 #[.int .u8 x] w fun e w' => e = .returned (.bool true) ∧ w = w' := by
  go_enter Try.func14, Try.ntmps14
  go_wp2
  go_ret
  exact ⟨by simp, rfl⟩
theorem isDigit_no (x : Int) (w : World) (h : x < 48 ∨ 57 < x) : Calls Try.prog 14 #[.int .u8 x] w fun e w' => e = .returned (.bool false) ∧ w = w' := by
  by_cases h1 : x < 48
  · go_enter Try.func14, Try.ntmps14
    go_wp2
    go_ret
    exact ⟨rfl, rfl⟩
  · have h2 : ¬ x ≤ 57 := by omega
    go_enter Try.func14, Try.ntmps14
    go_wp2
    go_ret
    exact ⟨by simp, rfl⟩

/-- A power of ten. -/
def pw (t : Nat) : Int := 10 ^ t
theorem pw_succ (t : Nat) : pw (t + 1) = pw t * 10 := by unfold pw; rw [Int.pow_succ]

set_option maxHeartbeats 2000000 in
set_option maxRecDepth 10000 in
theorem rtl_short (s : ByteArray) (ok : Bool) (m lo hi : Int) (w : World) (hs : s.size ≤ maxLen) (h : 1048576 < s.size ∨ ok = false ∨ ok = true ∧ (m < 0 ∨ (s.size : Int) < m)) :
    Calls Try.prog 5 #[.string s, .bool ok, .int .i64 m, .int .i64 lo, .int .i64 hi] w fun e w' => e = .returned (.bool true) ∧ Below w.heap.size w w' := by
  unfold maxLen at hs
  by_cases hb : 1048576 < s.size
  · clear h
    go_enter Try.func5, Try.ntmps5
    go_wp2_with (go_at_call 12; refine (zzBytes12_no _ _ _ _ _ _ hb).mono ?_; rintro e w' ⟨rfl, rfl⟩)
    go_ret
    exact ⟨rfl, Below.refl _ _⟩
  · rcases h with h | rfl | ⟨rfl, h⟩
    · omega
    · go_enter Try.func5, Try.ntmps5
      go_wp2_with (first | (go_at_call 12; refine (zzBytes12_any _ _ _ _ _ _ (by omega)).mono ?_; rintro e w' ⟨rfl, rfl⟩) | (go_at_call 13; refine (zzNum_bad _ _ _ _ _ _ (by omega) (.inl rfl)).mono ?_; rintro e w1 ⟨rfl, hbl⟩))
      go_ret
      exact ⟨by simp, hbl⟩
    · by_cases h0 : m < 0
      · go_enter Try.func5, Try.ntmps5
        go_wp2_with (go_at_call 12; refine (zzBytes12_any _ _ _ _ _ _ (by omega)).mono ?_; rintro e w' ⟨rfl, rfl⟩)
        go_ret
        exact ⟨rfl, Below.refl _ _⟩
      · have h' : (s.size : Int) < m := by omega
        clear h
        go_enter Try.func5, Try.ntmps5
        go_wp2_with (first | (go_at_call 12; refine (zzBytes12_any _ _ _ _ _ _ (by omega)).mono ?_; rintro e w' ⟨rfl, rfl⟩) | (go_at_call 13; refine (zzNum_bad _ _ _ _ _ _ (by omega) (.inr ⟨rfl, h'⟩)).mono ?_; rintro e w1 ⟨rfl, hbl⟩))
        go_ret
        exact ⟨by simp, hbl⟩

set_option maxHeartbeats 2000000 in
set_option maxRecDepth 10000 in
theorem rtl_digs (s : ByteArray) (m : Nat) (lo hi : Int) (w : World) (hs : s.size ≤ 1048576) (hm : m ≤ s.size) (hd : ∀ i, i < m → digAt s i) :
    Calls Try.prog 5 #[.string s, .bool true, .int .i64 m, .int .i64 lo, .int .i64 hi] w fun e w' => e = .returned (.bool true) ∧ Below w.heap.size w w' := by
  have HD : Hid (∀ i, i < m → digAt s i) := hd
  clear hd
  go_enter Try.func5, Try.ntmps5
  go_upto_region 10 with (first | (go_at_call 12; refine (zzBytes12_any _ _ _ _ _ _ (by omega)).mono ?_; rintro e w' ⟨rfl, rfl⟩) | (go_at_call 13; refine (zzNum_digs _ _ _ _ _ (by omega) hm HD.out).mono ?_; rintro e w1 ⟨rfl, hbl⟩))
  go_cut [14] (fun v wx => v = .int .i64 0 ∧ w1 = wx)
  case first =>
    go_wp2
    go_meet
    case rel => exact ⟨rfl, rfl⟩
  case rest =>
  obtain ⟨rfl, rfl⟩ := hcut
  go_wp2
  go_loop [14, 15, 16] (fun v p i => ∃ t : Nat, t ≤ m ∧ i = .int .i64 ((m : Int) - 1 - t) ∧ v = .int .i64 (wrap64 (rtl s m t)) ∧ p = .int .i64 (wrap64 (pw t))) (fun _ _ i => ((intOf i) + 1).toNat)
  case atStart => exact ⟨0, Nat.zero_le _, by simp, (show Value.int .i64 0 = .int .i64 (wrap64 0) by rw [wrap64_id (by omega) (by omega)]), (show Value.int .i64 1 = .int .i64 (wrap64 1) by rw [wrap64_id (by omega) (by omega)])⟩
  case round =>
    obtain ⟨t, ht, rfl, rfl, rfl⟩ := hrel
    obtain ⟨V, hV⟩ : ∃ V, V = rtl s m t := ⟨_, rfl⟩
    have HV : Hid (V = rtl s m t) := hV
    rw [← hV]
    clear hV
    by_cases hlt : t < m
    · have hx := HD.out (m - 1 - t) (by omega)
      have hin : m - 1 - t < s.size := by omega
      rw [digAt, byt_in hin] at hx
      obtain ⟨hx1, hx2⟩ := hx
      have hx1' : 48 ≤ ((s[m - 1 - t]'hin).toNat : Int) := by omega
      have hx2' : ((s[m - 1 - t]'hin).toNat : Int) ≤ 57 := by omega
      go_wp2_with (go_at_call 14; refine (isDigit_yes _ _ (by omega) (by omega)).mono ?_; rintro e w' ⟨rfl, rfl⟩)
      go_round
      case rel =>
        have R : wrap64 (wrap64 V + wrap64 ((((s[m - 1 - t]'hin).toNat : Int) - 48) * wrap64 (pw t))) = wrap64 (rtl s m (t + 1)) := by
          rw [wrap64_place, rtl, byt_in hin, ← HV.out]; rfl
        have R2 : wrap64 (wrap64 (pw t) * 10) = wrap64 (pw (t + 1)) := by rw [wrap64_ten, pw_succ]
        exact ⟨t + 1, by omega, by go_num, by rw [← R], by rw [← R2]⟩
      case measure => simp [intOf]; omega
    · obtain rfl : t = m := by omega
      have eV : V = hor s t := HV.out.trans (hor_rtl_all s t)
      subst eV
      obtain ⟨n, hn⟩ : ∃ n, n = wrap64 (hor s t) := ⟨_, rfl⟩
      rw [← hn]
      clear hn HV HD
      by_cases c1 : n < lo
      · have e := noB lo hi n (.inl c1)
        go_wp2
        go_ret
        exact ⟨by simp, hbl⟩
      · by_cases c2 : hi < n
        · have e := noB lo hi n (.inr c2)
          go_wp2
          go_ret
          exact ⟨by simp; omega, hbl⟩
        · have e := okB lo hi n (by omega) (by omega)
          go_wp2
          go_ret
          exact ⟨by simp, hbl⟩

set_option maxHeartbeats 2000000 in
set_option maxRecDepth 10000 in
theorem rtl_nodig (s : ByteArray) (m k0 : Nat) (lo hi : Int) (w : World) (hs : s.size ≤ 1048576) (hm : m ≤ s.size) (hk0 : k0 < m) (hd : ¬ digAt s k0) :
    Calls Try.prog 5 #[.string s, .bool true, .int .i64 m, .int .i64 lo, .int .i64 hi] w fun e w' => e = .returned (.bool true) ∧ Below w.heap.size w w' := by
  have HD : Hid (¬ digAt s k0) := hd
  clear hd
  go_enter Try.func5, Try.ntmps5
  go_upto_region 10 with (first | (go_at_call 12; refine (zzBytes12_any _ _ _ _ _ _ (by omega)).mono ?_; rintro e w' ⟨rfl, rfl⟩) | (go_at_call 13; refine (zzNum_nodig _ _ _ _ _ _ (by omega) hm hk0 HD.out).mono ?_; rintro e w1 ⟨rfl, hbl⟩))
  go_cut [14] (fun v wx => v = .int .i64 0 ∧ w1 = wx)
  case first =>
    go_wp2
    go_meet
    case rel => exact ⟨rfl, rfl⟩
  case rest =>
  obtain ⟨rfl, rfl⟩ := hcut
  go_wp2
  go_loop [14, 15, 16] (fun v p i => ∃ (t : Nat) (V P : Int), t ≤ m ∧ i = .int .i64 ((m : Int) - 1 - t) ∧ v = .int .i64 V ∧ p = .int .i64 P ∧ ∀ i, m - t ≤ i → i < m → digAt s i) (fun _ _ i => ((intOf i) + 1).toNat)
  case atStart => exact ⟨0, 0, 1, Nat.zero_le _, by simp, rfl, rfl, fun i h1 h2 => by omega⟩
  case round =>
    obtain ⟨t, V, P, ht, rfl, rfl, rfl, hall⟩ := hrel
    have HALL : Hid (∀ i, m - t ≤ i → i < m → digAt s i) := hall
    clear hall
    by_cases hlt : t < m
    · have hin : m - 1 - t < s.size := by omega
      have HIN : Hid (byt s (m - 1 - t) = (s[m - 1 - t]'hin).toNat) := byt_in hin
      by_cases hx : 48 ≤ ((s[m - 1 - t]'hin).toNat : Int) ∧ ((s[m - 1 - t]'hin).toNat : Int) ≤ 57
      · obtain ⟨hx1, hx2⟩ := hx
        go_wp2_with (go_at_call 14; refine (isDigit_yes _ _ (by omega) (by omega)).mono ?_; rintro e w' ⟨rfl, rfl⟩)
        go_round
        case rel =>
          have R : ∀ i, m - (t + 1) ≤ i → i < m → digAt s i := fun i h1 h2 => by
            by_cases e : i = m - 1 - t
            · rw [e, digAt, HIN.out]; omega
            · exact HALL.out i (by omega) h2
          exact ⟨t + 1, _, _, by omega, by go_num, rfl, rfl, R⟩
        case measure => simp [intOf]; omega
      · have hx' : ((s[m - 1 - t]'hin).toNat : Int) < 48 ∨ 57 < ((s[m - 1 - t]'hin).toNat : Int) := by omega
        clear hx
        have HX : Hid (((s[m - 1 - t]'hin).toNat : Int) < 48 ∨ 57 < ((s[m - 1 - t]'hin).toNat : Int)) := hx'
        clear hx'
        go_wp2_with (go_at_call 14; refine (isDigit_no _ _ HX.out).mono ?_; rintro e w' ⟨rfl, rfl⟩)
        go_ret
        exact ⟨by simp, hbl⟩
    · exact absurd (HALL.out k0 (by omega) hk0) HD.out
end Go.Proofs.Qxb6605287a
