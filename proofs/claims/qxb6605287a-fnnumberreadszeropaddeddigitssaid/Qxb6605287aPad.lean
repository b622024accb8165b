/-
  THE WALK OF FnNumberReadsZeroPaddedDigits.
-/
import Derived.Test.Qxb6605287aNum
import Derived.Laws.BytesArg
namespace Go.Proofs.Qxb6605287a
open Go.RowKit

theorem Try.info5p : (Try.prog.info? 5).map (fun i => (i.zero, i.size, i.bytes)) = some (some (.int .u8 0), 1, 1) := by kernel_rfl
theorem zzBytes15_any (v m lo hi : Int) (s : ByteArray) (w : World) (h : s.size ≤ 1048576) :
    Calls Try.prog 15 #[.int .i64 v, .int .i64 m, .string s, .int .i64 lo, .int .i64 hi] w fun e w' => e = .returned (.bool true) ∧ w = w' := by
  go_enter Try.func15, Try.ntmps15
  go_wp2
  go_ret
  exact ⟨rfl, rfl⟩
theorem zzBytes15_no (v m lo hi : Int) (s : ByteArray) (w : World) (h : 1048576 < s.size) :
    Calls Try.prog 15 #[.int .i64 v, .int .i64 m, .string s, .int .i64 lo, .int .i64 hi] w fun e w' => e = .returned (.bool false) ∧ w = w' := by
  go_enter Try.func15, Try.ntmps15
  go_wp2
  go_ret
  exact ⟨rfl, rfl⟩

/-- v has at most m digits. -/
def fits (v : Int) (m : Nat) : Bool := decide (0 ≤ v ∧ v < 10 ^ m)

theorem fits_big {v : Int} {m k L : Nat} (hL : L = 10 ^ k) (hk : k < m) (hb : 922337203685477580 < L) (h0 : 0 ≤ v) (hv : v ≤ 9223372036854775807) : fits v m = true := by
  unfold fits
  have h1 : 10 ^ (k + 1) ≤ 10 ^ m := Nat.pow_le_pow_right (by omega) (by omega)
  rw [Nat.pow_succ, ← hL] at h1
  have h2 : ((10 ^ m : Nat) : Int) = (10 : Int) ^ m := by simp
  exact decide_eq_true ⟨h0, by rw [← h2]; omega⟩
theorem fits_end {v : Int} {m L : Nat} (hL : L = 10 ^ m) (h0 : 0 ≤ v) : fits v m = decide (v < (L : Int)) := by
  unfold fits
  have h2 : ((10 ^ m : Nat) : Int) = (10 : Int) ^ m := by simp
  rw [hL, h2]
  simp [h0]

set_option maxHeartbeats 1000000 in
theorem fits_any (v : Int) (m : Nat) (w : World) (h1 : 1 ≤ m) (hm : m ≤ 65536) (hv : -9223372036854775808 ≤ v) (hv2 : v ≤ 9223372036854775807) :
    Calls Try.prog 16 #[.int .i64 v, .int .i64 m] w fun e w' => e = .returned (.bool (fits v m)) ∧ w = w' := by
  by_cases h0 : v < 0
  · go_enter Try.func16, Try.ntmps16
    go_wp2
    go_ret
    exact ⟨(show Ending.returned (.bool false) = _ by rw [fits, decide_eq_false (by omega)]), rfl⟩
  · go_enter Try.func16, Try.ntmps16
    go_wp2
    go_loop [5, 6] (fun l i => ∃ k L : Nat, k ≤ m ∧ i = .int .i64 k ∧ l = .int .i64 L ∧ L = 10 ^ k ∧ 1 ≤ L ∧ L ≤ 9223372036854775807) (fun _ i => m - (intOf i).toNat)
    case atStart => exact ⟨0, 1, Nat.zero_le _, rfl, rfl, rfl, by omega, by omega⟩
    case round =>
      obtain ⟨k, L, hk, rfl, rfl, hL, hL1, hL2⟩ := hrel
      have HL : Hid (L = 10 ^ k) := hL
      clear hL
      by_cases hlt : k < m
      · by_cases hb : (922337203685477580 : Int) < (L : Int)
        · go_wp2
          go_ret
          exact ⟨(show Ending.returned (.bool true) = _ by rw [fits_big HL.out hlt (by omega) (by omega) hv2]), rfl⟩
        · go_wp2
          go_round
          case rel => exact ⟨k + 1, L * 10, by omega, by go_num, by go_num, by rw [HL.out, Nat.pow_succ], by omega, by omega⟩
          case measure => simp [intOf]; omega
      · obtain rfl : k = m := by omega
        go_wp2
        go_ret
        exact ⟨(show Ending.returned (.bool (decide (v < (L : Int)))) = _ by rw [fits_end HL.out (by omega)]), rfl⟩

/-- The digit of V at place j of m. -/
def dg (V m j : Nat) : Nat := 48 + V / 10 ^ (m - 1 - j) % 10
def dgs (V m : Nat) : List Int := (List.range m).map fun j => (dg V m j : Int)
theorem dgs_len (V m : Nat) : (dgs V m).length = m := by simp [dgs]
theorem dgs_at (V m j : Nat) (h : j < m) : (dgs V m)[j]? = some (dg V m j : Int) := by simp [dgs, h]
theorem byt_text {V m : Nat} {s : ByteArray} {j : Nat} (h : j < m) : byt (strOfNums (dgs V m) ++ s) j = dg V m j := by
  have hz : j < (strOfNums (dgs V m) ++ s).size := by rw [ByteArray.size_append', strOfNums_size, dgs_len]; omega
  have hz' : j < (strOfNums (dgs V m)).size := by rw [strOfNums_size, dgs_len]; exact h
  have hd : dg V m j ≤ 57 := by unfold dg; omega
  rw [byt_in hz, ByteArray.getElem_append_left hz']
  have e : (strOfNums (dgs V m))[j] = UInt8.ofNat (dg V m j) := by
    show (strOfNums (dgs V m)).data[j] = _
    simp [strOfNums, dgs]
  rw [e]
  simp; omega
theorem hor_text {V m : Nat} {s : ByteArray} (hV : V < 10 ^ m) : ∀ k, k ≤ m → hor (strOfNums (dgs V m) ++ s) k = ((V / 10 ^ (m - k) : Nat) : Int) := by
  intro k
  induction k with
  | zero => intro _; rw [hor, Nat.sub_zero, Nat.div_eq_of_lt hV]; rfl
  | succ k ih =>
    intro h
    rw [hor, ih (by omega), byt_text (by omega), dg]
    obtain ⟨d, hd⟩ : ∃ d, m - k = d + 1 := ⟨m - k - 1, by omega⟩
    rw [hd, show m - (k + 1) = d by omega, show m - 1 - k = d by omega, Nat.pow_succ, ← Nat.div_div_eq_div_mul]
    generalize V / 10 ^ d = q
    omega
theorem tail_text {V m : Nat} {s : ByteArray} : (strOfNums (dgs V m) ++ s).extract m (strOfNums (dgs V m) ++ s).size = s := by
  have hz : (strOfNums (dgs V m)).size = m := by rw [strOfNums_size, dgs_len]
  have h2 : (strOfNums (dgs V m) ++ s).size = m + s.size := by rw [ByteArray.size_append', hz]
  apply ByteArray.ext_getElem
  · rw [ByteArray.size_extract]; omega
  · intro i h1 h3
    rw [ByteArray.getElem_extract, ByteArray.getElem_append_right (by omega)]
    congr 1
    omega

theorem grown_own' {w wx w1 : World} (h : w.grownBy wx none) (hg : wx.grownBy w1 (some w.heap.size)) : w.grownBy w1 none :=
  ⟨hg.os.trans h.os, hg.tape.trans h.tape, hg.output.trans h.output, Nat.le_trans h.size hg.size, fun k hk _ => by
    rw [hg.block k (Nat.lt_of_lt_of_le hk h.size) (by intro e; injection e; omega)]; exact h.block k hk (by simp)⟩

set_option maxHeartbeats 2000000 in
set_option maxRecDepth 10000 in
theorem pad_any (v m lo hi : Int) (s : ByteArray) (w : World) (hs : s.size ≤ maxLen) (hv : -9223372036854775808 ≤ v) (hv2 : v ≤ 9223372036854775807) :
    Calls Try.prog 6 #[.int .i64 v, .int .i64 m, .string s, .int .i64 lo, .int .i64 hi] w fun e w' => e = .returned (.bool true) ∧ Below w.heap.size w w' := by
  unfold maxLen at hs
  obtain ⟨i0, hi0, hz0, hz1, hz2⟩ := info_parts Try.info5p
  by_cases hb : 1048576 < s.size
  · go_enter Try.func6, Try.ntmps6
    go_wp2_with (go_at_call 15; refine (zzBytes15_no _ _ _ _ _ _ hb).mono ?_; rintro e w' ⟨rfl, rfl⟩)
    go_ret
    exact ⟨rfl, Below.refl _ _⟩
  · by_cases hb2 : 524288 < (s.size : Int)
    · go_enter Try.func6, Try.ntmps6
      go_wp2_with (go_at_call 15; refine (zzBytes15_any _ _ _ _ _ _ (by omega)).mono ?_; rintro e w' ⟨rfl, rfl⟩)
      go_ret
      exact ⟨rfl, Below.refl _ _⟩
    · by_cases hm1 : m < 1
      · go_enter Try.func6, Try.ntmps6
        go_wp2_with (go_at_call 15; refine (zzBytes15_any _ _ _ _ _ _ (by omega)).mono ?_; rintro e w' ⟨rfl, rfl⟩)
        go_ret
        exact ⟨rfl, Below.refl _ _⟩
      · by_cases hm2 : 65536 < m
        · go_enter Try.func6, Try.ntmps6
          go_wp2_with (go_at_call 15; refine (zzBytes15_any _ _ _ _ _ _ (by omega)).mono ?_; rintro e w' ⟨rfl, rfl⟩)
          go_ret
          exact ⟨rfl, Below.refl _ _⟩
        · obtain ⟨M, rfl⟩ : ∃ M : Nat, m = M := ⟨m.toNat, by omega⟩
          have F := fun w => fits_any v M w (by omega) (by omega) hv hv2
          cases hf : fits v M
          · rw [hf] at F
            have HF : Hid (∀ w, Calls Try.prog 16 #[.int .i64 v, .int .i64 M] w fun e w' => e = .returned (.bool false) ∧ w = w') := F
            clear F hf
            go_enter Try.func6, Try.ntmps6
            go_wp2_with (first | (go_at_call 15; refine (zzBytes15_any _ _ _ _ _ _ (by omega)).mono ?_; rintro e w' ⟨rfl, rfl⟩) | (go_at_call 16; refine (HF.out _).mono ?_; rintro e w' ⟨rfl, rfl⟩))
            go_ret
            exact ⟨rfl, Below.refl _ _⟩
          · rw [hf] at F
            have HF : Hid (∀ w, Calls Try.prog 16 #[.int .i64 v, .int .i64 M] w fun e w' => e = .returned (.bool true) ∧ w = w') := F
            have hfv : 0 ≤ v ∧ v < 10 ^ M := by unfold fits at hf; exact of_decide_eq_true hf
            obtain ⟨V, rfl⟩ : ∃ V : Nat, v = V := ⟨v.toNat, by omega⟩
            have hVM : V < 10 ^ M := by have h2 : ((10 ^ M : Nat) : Int) = (10 : Int) ^ M := by simp
                                        have := hfv.2; rw [← h2] at this; omega
            have HVM : Hid (V < 10 ^ M) := hVM
            clear F hf hfv hVM
            go_enter Try.func6, Try.ntmps6
            go_upto_region 10 with (first | (go_at_call 15; refine (zzBytes15_any _ _ _ _ _ _ (by omega)).mono ?_; rintro e w' ⟨rfl, rfl⟩) | (go_at_call 16; refine (HF.out _).mono ?_; rintro e w' ⟨rfl, rfl⟩) | (at_make; refine wpList_make_full _ rfl _ _ 22 rfl w.heap.size 5 i0 (.int .u8 0) 1 Try.underlying22 hi0 hz0 hz1 _ _ _ _ M rfl rfl rfl rfl (by rw [hz2]; omega) (by unfold maxLen; omega) (Nat.le_refl _) ?_; intro w1 hown1 hgr1))
            have HO1 : Hid (w1.ownsRow w.heap.size 5 1 (.slice (some ⟨w.heap.size, 0, none⟩) M M) M (madeCells (Value.int .u8 0).cells (M * 1)).toList) := hown1
            have HG1 : Hid (w.grownBy w1 none) := hgr1
            clear hown1 hgr1
            go_cut [12] (fun x wx => x = .int .i64 V ∧ w1 = wx)
            case first =>
              go_wp2
              go_meet
              case rel => exact ⟨rfl, rfl⟩
            case rest =>
              obtain ⟨rfl, rfl⟩ := hcut
              go_wp2
              go_loopw [12, 13] (fun x i wr => ∃ (t X : Nat) (xs : List Value), t ≤ M ∧ X ≤ V ∧ i = .int .i64 ((M : Int) - 1 - t) ∧ x = .int .i64 X ∧ X = V / 10 ^ t ∧ wr.ownsRow w.heap.size 5 1 (.slice (some ⟨w.heap.size, 0, none⟩) M M) M xs ∧
                  (∀ j, M - t ≤ j → j < M → xs[j]? = some (.int .u8 (dg V M j))) ∧ w.grownBy wr none) (fun _ i _ => ((intOf i) + 1).toNat)
              case atStart => exact ⟨0, V, _, Nat.zero_le _, Nat.le_refl _, by simp, rfl, by simp, HO1.out, fun j h1 h2 => by omega, HG1.out⟩
              case round =>
                clear HO1 HG1
                obtain ⟨t, X, xs, ht, hXV, rfl, rfl, hX, hown, hxs, hgr⟩ := hrel
                have HX : Hid (X = V / 10 ^ t) := hX
                have HO : Hid (wr.ownsRow w.heap.size 5 1 (.slice (some ⟨w.heap.size, 0, none⟩) M M) M xs) := hown
                have HXS : Hid (∀ j, M - t ≤ j → j < M → xs[j]? = some (.int .u8 (dg V M j))) := hxs
                have HG : Hid (w.grownBy wr none) := hgr
                have hxl : xs.length = M := by simpa using hown.1
                have HXL : Hid (xs.length = M) := hxl
                by_cases hlt : t < M
                · have hdst : wr.cell? ⟨w.heap.size, M - 1 - t, none⟩ = some (xs[M - 1 - t]'(by omega)) := by
                    rw [hown.cellAt (M - 1 - t) (by omega)]; simp
                  have hfr := hown.frozenAt (M - 1 - t)
                  obtain ⟨y, hy⟩ : ∃ y, y = xs[M - 1 - t]'(by omega) := ⟨_, rfl⟩
                  rw [← hy] at hdst
                  clear hX hown hxs hgr hxl hy
                  go_wp2
                  go_roundw
                  case rel =>
                    have e : dg V M (M - 1 - t) = 48 + X % 10 := by unfold dg; rw [HX.out, show M - 1 - (M - 1 - t) = t by omega]
                    have hg := (HO.out.stored (M - 1 - t) (.int .u8 (48 + (X : Int) % 10))).2
                    refine ⟨t + 1, X / 10, _, by omega, by omega, by go_num, by go_num, ?_, (HO.out.stored (M - 1 - t) _).1, fun j h1 h2 => ?_, grown_own' HG.out hg⟩
                    · rw [HX.out, Nat.pow_succ, Nat.div_div_eq_div_mul]
                    · by_cases ej : j = M - 1 - t
                      · rw [ej, List.getElem?_set_self (by rw [HXL.out]; omega), e]; simp
                      · rw [List.getElem?_set_ne (by omega)]; exact HXS.out j (by omega) h2
                  case measure => simp [intOf]; omega
                · obtain rfl : t = M := by omega
                  have exs : xs = (dgs V t).map (Value.int .u8) := by
                    apply List.ext_getElem?
                    intro j
                    by_cases hj : j < t
                    · rw [hxs j (by omega) hj, List.getElem?_map, dgs_at V t j hj]; rfl
                    · rw [List.getElem?_eq_none (by omega), List.getElem?_eq_none (by rw [List.length_map, dgs_len]; omega)]
                  have hcell : ∀ i, i < t → wr.cell? ⟨w.heap.size, 0 + i, none⟩ = some (.int .u8 ((dgs V t).getD i 0)) := by
                    intro i hi
                    rw [Nat.zero_add, hown.cellAt i (by omega), exs, List.getElem?_map, dgs_at V t i hi]
                    simp [List.getD, dgs_at V t i hi]
                  have hconv := run_convert_bytes_arg (P := Try.prog) wr 22 5 Try.underlying22 Try.underlying5 w.heap.size 0 t t (dgs V t) (dgs_len V t) hcell 9 Try.underlying9
                  have hbel : Below w.heap.size w wr := (Below.refl _ _).grown hgr (Nat.le_refl _) (by intro k hk; cases hk)
                  have HBL : Hid (Below w.heap.size w wr) := hbel
                  have hsz : (strOfNums (dgs V t)).size ≤ 65536 := by rw [strOfNums_size, dgs_len]; omega
                  have hsz2 : (strOfNums (dgs V t) ++ s).size = t + s.size := by rw [ByteArray.size_append', strOfNums_size, dgs_len]
                  have C := fun wx => zzNum_digs (strOfNums (dgs V t) ++ s) t lo hi wx (by omega) (by omega) (fun i hi => by
                    rw [digAt, byt_text hi]; unfold dg; omega)
                  have hh : wrap64 (hor (strOfNums (dgs V t) ++ s) t) = V := by
                    rw [hor_text HVM.out t (Nat.le_refl _), Nat.sub_self, Nat.pow_zero, Nat.div_one]
                    exact wrap64_id (by omega) (by omega)
                  rw [hh, tail_text] at C
                  obtain ⟨T, hT⟩ : ∃ T, T = strOfNums (dgs V t) := ⟨_, rfl⟩
                  rw [← hT] at C hconv hsz
                  have HC : Hid (∀ wx, Calls Try.prog 13 #[.string (T ++ s), .bool true, .int .i64 t, .int .i64 lo, .int .i64 hi] wx fun e w' => e = .returned (.tuple #[.string s, .bool (inB lo hi V), .int .i64 V]) ∧ Below wx.heap.size wx w') := C
                  have hbs := hgr.size
                  clear C hh hT hsz2 hbel hcell exs hX hown hxs hgr hxl
                  go_wp2_with fail
                  refine (HC.out _).mono ?_
                  rintro e w2 ⟨rfl, hb3⟩
                  have HB3 : Hid (Below w.heap.size w w2) := HBL.out.trans (hb3.mono hbs)
                  clear hb3
                  by_cases c1 : (V : Int) < lo
                  · have e := noB lo hi V (.inl c1)
                    go_wp2
                    go_ret
                    exact ⟨by simp, HB3.out⟩
                  · by_cases c2 : hi < (V : Int)
                    · have e := noB lo hi V (.inr c2)
                      go_wp2
                      go_ret
                      exact ⟨by simp; omega, HB3.out⟩
                    · have e := okB lo hi V (by omega) (by omega)
                      go_wp2
                      go_ret
                      exact ⟨by simp, HB3.out⟩
end Go.Proofs.Qxb6605287a
