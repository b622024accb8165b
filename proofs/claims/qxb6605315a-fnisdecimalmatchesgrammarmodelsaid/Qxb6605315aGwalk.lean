/-
  THE WALK OF zzDecimalGrammar.
-/
import Derived.Test.Qxb6605315aGram
namespace Go.Proofs.Qxb6605315a
open Go.RowKit

/-- m is the text s from place a to place b. -/
def Win (s m : ByteArray) (a b : Nat) : Prop := a ≤ b ∧ b ≤ s.size ∧ m.size = b - a ∧ ∀ i, i < m.size → byt m i = byt s (a + i)
theorem win_extract {s : ByteArray} {a b : Nat} (h1 : a ≤ b) (h2 : b ≤ s.size) : Win s (s.extract a b) a b := by
  have hsz : (s.extract a b).size = b - a := by rw [ByteArray.size_extract]; omega
  refine ⟨h1, h2, hsz, fun i hi => ?_⟩
  rw [byt_in hi, byt_in (show a + i < s.size by omega), ByteArray.getElem_extract]
theorem Win.drop {s m : ByteArray} {a b : Nat} (h : Win s m a b) (hm : 1 ≤ m.size) : Win s (m.extract 1 m.size) (a + 1) b := by
  obtain ⟨h1, h2, h3, h4⟩ := h
  have hsz : (m.extract 1 m.size).size = m.size - 1 := by rw [ByteArray.size_extract]; omega
  refine ⟨by omega, h2, by omega, fun i hi => ?_⟩
  have := h4 (1 + i) (by omega)
  rw [byt_in hi, ByteArray.getElem_extract, ← byt_in (show 1 + i < m.size by omega), this]
  congr 1; omega
theorem Win.eqB {s m : ByteArray} {a b : Nat} (h : Win s m a b) {i : Nat} (hi : i < m.size) (c : Nat) : eqB m i c = eqB s (a + i) c := by
  unfold Qxb6605315a.eqB; rw [h.2.2.2 i hi]
theorem Win.dig {s m : ByteArray} {a b : Nat} (h : Win s m a b) {i : Nat} (hi : i < m.size) : digAt m i = digAt s (a + i) := by
  unfold digAt; rw [h.2.2.2 i hi]

theorem dec_false {b : Bool} {p : Prop} (h : b = true ↔ p) (hn : ¬ p) : false = b := by
  cases b with
  | false => rfl
  | true => exact absurd (h.1 rfl) hn
theorem win_whole (s : ByteArray) : Win s s 0 s.size := ⟨Nat.zero_le _, Nat.le_refl _, rfl, fun i _ => by rw [Nat.zero_add]⟩
theorem pm_of {s m : ByteArray} {k : Nat} (h : Win s m 0 k) (he : k = s.size ∨ orB s k 101 69 = true) : eqB m 0 45 = eqB s 0 45 := by
  by_cases h0 : 0 < m.size
  · simpa using h.eqB h0 45
  · have hk : k = 0 := by have := h.2.2.1; omega
    rw [eqAt_out 45 (by omega) h0]
    symm
    rw [eq_not]
    rcases he with he | he
    · rw [byt_out (by omega)]; omega
    · have := or_is.1 he; subst hk; omega
theorem pm_no {s m : ByteArray} {k : Nat} (h : Win s m 0 k) (he : k = s.size ∨ orB s k 101 69 = true) (hb : eqB m 0 45 = false) : Win s m (pMinus s) k := by
  rw [pm_of h he] at hb
  rw [pMinus, if_neg (eq_not.1 hb)]; exact h
theorem pm_yes {s m : ByteArray} {k : Nat} (h : Win s m 0 k) (he : k = s.size ∨ orB s k 101 69 = true) (hb : eqB m 0 45 = true) (hm : 1 ≤ m.size) : Win s (m.extract 1 m.size) (pMinus s) k := by
  rw [pm_of h he] at hb
  rw [pMinus, if_pos (eq_is.1 hb)]; exact h.drop hm
theorem sg_of {s x : ByteArray} {p : Nat} (h : Win s x p s.size) : orB x 0 43 45 = orB s p 45 43 := by
  have e : byt x 0 = byt s p := by
    by_cases h0 : 0 < x.size
    · simpa using h.2.2.2 0 h0
    · rw [byt_out h0, byt_out (by have := h.2.2.1; omega)]
  unfold orB
  rw [e]
  congr 1
  exact propext or_comm
theorem sg_no {s x : ByteArray} {p : Nat} (h : Win s x p s.size) (hb : orB x 0 43 45 = false) : Win s x (pSign s p) s.size := by
  rw [sg_of h] at hb
  rw [pSign, if_neg (or_not.1 hb)]; exact h
theorem sg_yes {s x : ByteArray} {p : Nat} (h : Win s x p s.size) (hb : orB x 0 43 45 = true) (hm : 1 ≤ x.size) : Win s (x.extract 1 x.size) (pSign s p) s.size := by
  rw [sg_of h] at hb
  rw [pSign, if_pos (or_is.1 hb)]; exact h.drop hm
theorem cnt_yes {f : Nat → Bool} {a t : Nat} (h : f (a + t) = true) : ((cnt f a (t + 1) : Nat) : Int) = (cnt f a t : Int) + 1 := by rw [cnt, h]; simp
theorem cnt_no {f : Nat → Bool} {a t : Nat} (h : f (a + t) = false) : ((cnt f a (t + 1) : Nat) : Int) = (cnt f a t : Int) := by rw [cnt, h]; simp
/-- What is known of the mantissa's first t places. -/
def Good (s : ByteArray) (a t : Nat) : Prop := ∀ i, a ≤ i → i < a + t → eqB s i 46 = true ∨ digAt s i = true
theorem Good.next {s : ByteArray} {a t : Nat} (h : Good s a t) (hn : eqB s (a + t) 46 = true ∨ digAt s (a + t) = true) : Good s a (t + 1) := by
  intro i h1 h2
  by_cases e : i = a + t
  · rw [e]; exact hn
  · exact h i h1 (by omega)
theorem win_is46 {s m : ByteArray} {a k t : Nat} (h : Win s m a k) (ht : t < m.size) (hc : ((m[t]'ht).toNat : Int) = 46) : eqB s (a + t) 46 = true ∧ digAt s (a + t) = false := by
  rw [← h.eqB ht, ← h.dig ht, eq_is, dig_not, byt_in ht]; omega
theorem win_isdig {s m : ByteArray} {a k t : Nat} (h : Win s m a k) (ht : t < m.size) (h1 : 48 ≤ ((m[t]'ht).toNat : Int)) (h2 : ((m[t]'ht).toNat : Int) ≤ 57) : eqB s (a + t) 46 = false ∧ digAt s (a + t) = true := by
  rw [← h.eqB ht, ← h.dig ht, eq_not, dig_is, byt_in ht]; omega
theorem win_bad {s m : ByteArray} {a k t : Nat} (h : Win s m a k) (ht : t < m.size) (h0 : ¬ ((m[t]'ht).toNat : Int) = 46) (h1 : ((m[t]'ht).toNat : Int) < 48 ∨ 57 < ((m[t]'ht).toNat : Int)) {p : Prop} : ¬ (Mant s a k ∧ p) := by
  rintro ⟨⟨g, _, _⟩, _⟩
  have := h.2.2.1
  have := g (a + t) (by omega) (by omega)
  rw [← h.eqB ht, ← h.dig ht, eq_is, dig_is, byt_in ht] at this
  omega
/-- The mantissa is right. -/
theorem mant_mk {s m : ByteArray} {a k : Nat} (h : Win s m a k) (hg : Good s a m.size) (c1 : ¬ 1 < (cnt (fun i => eqB s i 46) a m.size : Int)) (c2 : ¬ (cnt (digAt s) a m.size : Int) = 0) : Mant s a k := by
  have e := h.2.2.1
  unfold Good at hg
  rw [e] at hg c1 c2
  exact ⟨fun i h1 h2 => hg i h1 (by have := h.1; omega), by omega, by omega⟩
theorem mant_not {s m : ByteArray} {a k : Nat} (h : Win s m a k) (c : 1 < (cnt (fun i => eqB s i 46) a m.size : Int) ∨ (cnt (digAt s) a m.size : Int) = 0) {p : Prop} : ¬ (Mant s a k ∧ p) := by
  rintro ⟨⟨_, g1, g2⟩, _⟩
  have e := h.2.2.1
  rw [e] at c
  omega
theorem ex_not {s x : ByteArray} {q : Nat} (h : Win s x q s.size) (c : (x.size : Int) < 1 ∨ 3 < (x.size : Int)) : ¬ ExOk s q := by
  rintro ⟨h1, h2, _⟩
  have e := h.2.2.1
  omega
theorem ex_bad {s x : ByteArray} {q t : Nat} (h : Win s x q s.size) (ht : t < x.size) (h1 : ((x[t]'ht).toNat : Int) < 48 ∨ 57 < ((x[t]'ht).toNat : Int)) : ¬ ExOk s q := by
  rintro ⟨_, _, g⟩
  have e := h.2.2.1
  have := g (q + t) (by omega) (by omega)
  rw [← h.dig ht, dig_is, byt_in ht] at this
  omega
theorem ex_mk {s x : ByteArray} {q : Nat} (h : Win s x q s.size) (h1 : 1 ≤ x.size) (h2 : x.size ≤ 3) (hg : ∀ i, q ≤ i → i < q + x.size → digAt s i = true) : ExOk s q := by
  have e := h.2.2.1
  exact ⟨by omega, by omega, fun i a b => hg i a (by omega)⟩

set_option maxHeartbeats 2000000 in
set_option maxRecDepth 10000 in
theorem gram_any (s : ByteArray) (w : World) (hs : s.size ≤ maxLen) :
    Calls Try.prog 7 #[.string s] w fun e w' => e = .returned (.bool (isDec s)) ∧ w' = w := by
  unfold maxLen at hs
  go_enter Try.func7, Try.ntmps7
  go_wp2
  go_loop [3, 4] (fun kk i => ∃ j : Nat, j ≤ s.size ∧ i = .int .i64 j ∧ kk = .int .i64 s.size ∧ ∀ i, i < j → orB s i 101 69 = false) (fun _ i => s.size - (intOf i).toNat)
  case atStart => exact ⟨0, Nat.zero_le _, rfl, rfl, fun i h => by omega⟩
  case round =>
    obtain ⟨j, hj, rfl, rfl, hno⟩ := hrel
    have HNO : Hid (∀ i, i < j → orB s i 101 69 = false) := hno
    clear hno
    by_cases hlt : j < s.size
    · go_upto_region 5 with fail
      go_cut [29] (fun b wx => b = .bool (orB s j 101 69) ∧ w = wx)
      case first =>
        by_cases hc1 : ((s[j]'hlt).toNat : Int) = 101
        · go_wp2
          go_meet
          case rel => exact ⟨or2_yes 101 69 hlt hc1, rfl⟩
        · go_wp2
          go_meet
          case rel => exact ⟨or2_no 101 69 hlt, rfl⟩
      case rest =>
        obtain ⟨rfl, rfl⟩ := hcut
        cases hE : orB s j 101 69
        · have HE : Hid (orB s j 101 69 = false) := hE
          clear hE
          go_wp2
          go_round
          case rel => exact ⟨j + 1, by omega, by go_num, rfl, fun i hi => by
            by_cases e : i = j
            · rw [e]; exact HE.out
            · exact HNO.out i (by omega)⟩
          case measure => simp [intOf]; omega
        · have HE : Hid (j = s.size ∨ orB s j 101 69 = true) := .inr hE
          clear hE
          have hK : j ≤ s.size := hj
          have HI : Hid (isDec s = true ↔ Mant s (pMinus s) j ∧ (j = s.size ∨ ExOk s (pSign s (j + 1)))) := dec_iff hK HNO.out HE.out
          clear HNO
          go_upto_region 8 with fail
          go_cut [5, 41] (fun v b wx => ∃ m, v = .string m ∧ Win s m 0 j ∧ b = .bool (eqB m 0 45) ∧ w = wx)
          case first =>
            by_cases h0 : 0 < j
            · go_wp2
              go_meet
              case rel => exact ⟨_, rfl, win_extract (Nat.zero_le _) hK, val_bool (eqAt_in 45 (by rw [ByteArray.size_extract]; omega)), rfl⟩
            · go_wp2
              go_meet
              case rel => exact ⟨_, rfl, win_extract (Nat.zero_le _) hK, val_bool (eqAt_out 45 (by omega) (by rw [ByteArray.size_extract]; omega)).symm, rfl⟩
          case rest =>
            obtain ⟨m, rfl, hwin, rfl, rfl⟩ := hcut
            have HW : Hid (Win s m 0 j) := hwin
            clear hwin
            go_upto_if 41 with fail
            go_cut [5] (fun v wx => ∃ m, v = .string m ∧ Win s m (pMinus s) j ∧ w = wx)
            case first =>
              cases h0 : eqB m 0 45
              · have HM : Hid (Win s m (pMinus s) j) := pm_no HW.out HE.out h0
                clear h0
                go_wp2
                go_meet
                case rel => exact ⟨m, rfl, HM.out, rfl⟩
              · have hm1 : 1 ≤ m.size := byt_pos (s := m) (i := 0) (by have := eq_is.1 h0; omega)
                have HM : Hid (Win s (m.extract 1 m.size) (pMinus s) j) := pm_yes HW.out HE.out h0 hm1
                clear h0
                go_wp2
                go_meet
                case rel => exact ⟨_, rfl, HM.out, rfl⟩
            case rest =>
              clear HW
              obtain ⟨m, rfl, hwin, rfl⟩ := hcut
              obtain ⟨a, hA⟩ : ∃ a, a = pMinus s := ⟨_, rfl⟩
              rw [← hA] at HI hwin
              clear hA
              have HW : Hid (Win s m a j) := hwin
              have hms : m.size ≤ s.size := by have := hwin.2.2.1; omega
              clear hwin
              go_wp2
              go_loop [6, 7, 8] (fun d g i => ∃ t : Nat, t ≤ m.size ∧ i = .int .i64 t ∧ d = .int .i64 (cnt (fun i => eqB s i 46) a t : Int) ∧ g = .int .i64 (cnt (digAt s) a t : Int) ∧ Good s a t) (fun _ _ i => m.size - (intOf i).toNat)
              case atStart => exact ⟨0, Nat.zero_le _, rfl, rfl, rfl, fun i h1 h2 => by omega⟩
              case round =>
                obtain ⟨t, ht, rfl, rfl, rfl, hgood⟩ := hrel
                have HG : Hid (Good s a t) := hgood
                clear hgood
                have hc1 := cnt_le (fun i => eqB s i 46) a t
                have hc2 := cnt_le (digAt s) a t
                by_cases hlt2 : t < m.size
                · by_cases h46 : ((m[t]'hlt2).toNat : Int) = 46
                  · have H46 : Hid (((m[t]'hlt2).toNat : Int) = 46) := h46
                    go_wp2
                    go_round
                    case rel => exact ⟨t + 1, by omega, by go_num, val_i64 (cnt_yes (win_is46 HW.out hlt2 H46.out).1).symm, val_i64 (cnt_no (win_is46 HW.out hlt2 H46.out).2).symm, HG.out.next (.inl (win_is46 HW.out hlt2 H46.out).1)⟩
                    case measure => simp [intOf]; omega
                  · have h46' : (((m[t]'hlt2).toNat : Int) == 46) = false := by simpa using h46
                    by_cases h48 : 48 ≤ ((m[t]'hlt2).toNat : Int)
                    · by_cases h57 : ((m[t]'hlt2).toNat : Int) ≤ 57
                      · go_wp2
                        go_round
                        case rel => exact ⟨t + 1, by omega, by go_num, val_i64 (cnt_no (win_isdig HW.out hlt2 h48 h57).1).symm, val_i64 (cnt_yes (win_isdig HW.out hlt2 h48 h57).2).symm, HG.out.next (.inr (win_isdig HW.out hlt2 h48 h57).2)⟩
                        case measure => simp [intOf]; omega
                      · go_wp2
                        go_ret
                        exact ⟨ret_bool (dec_false HI.out (win_bad HW.out hlt2 h46 (.inr (by omega)))), rfl⟩
                    · go_wp2
                      go_ret
                      exact ⟨ret_bool (dec_false HI.out (win_bad HW.out hlt2 h46 (.inl (by omega)))), rfl⟩
                · obtain rfl : t = m.size := by omega
                  by_cases c1 : 1 < (cnt (fun i => eqB s i 46) a m.size : Int)
                  · go_wp2
                    go_ret
                    exact ⟨ret_bool (dec_false HI.out (mant_not HW.out (.inl c1))), rfl⟩
                  · by_cases c2 : (cnt (digAt s) a m.size : Int) = 0
                    · have C2 : Hid ((cnt (digAt s) a m.size : Int) = 0) := c2
                      go_wp2
                      go_ret
                      exact ⟨ret_bool (dec_false HI.out (mant_not HW.out (.inr C2.out))), rfl⟩
                    · have c3 : ((cnt (digAt s) a m.size : Int) == 0) = false := by simpa using c2
                      have MK : Hid (Mant s a j) := mant_mk HW.out HG.out c1 c2
                      clear HG HW
                      have HI2 : Hid (isDec s = true ↔ ExOk s (pSign s (j + 1))) := ⟨fun h => by rcases (HI.out.1 h).2 with h | h; omega; exact h, fun h => HI.out.2 ⟨MK.out, .inr h⟩⟩
                      clear HI MK HE
                      go_upto_region 26 with fail
                      go_cut [10, 91] (fun v b wx => ∃ x, v = .string x ∧ Win s x (j + 1) s.size ∧ b = .bool (orB x 0 43 45) ∧ w = wx)
                      case first =>
                        have hsz : (s.extract (j + 1) s.size).size = s.size - (j + 1) := by rw [ByteArray.size_extract]; omega
                        have HSZ : Hid ((s.extract (j + 1) s.size).size = s.size - (j + 1)) := hsz
                        clear hsz
                        by_cases h0 : j + 1 < s.size
                        · have hx : 0 < (s.extract (j + 1) s.size).size := by rw [HSZ.out]; omega
                          by_cases h43 : (((s.extract (j + 1) s.size)[0]'hx).toNat : Int) = 43
                          · have H43 : Hid ((((s.extract (j + 1) s.size)[0]'hx).toNat : Int) = 43) := h43
                            go_wp2
                            go_meet
                            case rel => exact ⟨_, rfl, win_extract (by omega) (Nat.le_refl _), or2_yes 43 45 hx H43.out, rfl⟩
                          · go_wp2
                            go_meet
                            case rel => exact ⟨_, rfl, win_extract (by omega) (Nat.le_refl _), or2_no 43 45 hx, rfl⟩
                        · go_wp2
                          go_meet
                          case rel => exact ⟨_, rfl, win_extract (by omega) (Nat.le_refl _), or2_out 43 45 (by omega) (by omega) (by rw [HSZ.out]; omega), rfl⟩
                      case rest =>
                        obtain ⟨x, rfl, hwin, rfl, rfl⟩ := hcut
                        have HW : Hid (Win s x (j + 1) s.size) := hwin
                        have hxs : x.size ≤ s.size := by have := hwin.2.2.1; omega
                        clear hwin
                        go_upto_if 91 with fail
                        go_cut [10] (fun v wx => ∃ x, v = .string x ∧ Win s x (pSign s (j + 1)) s.size ∧ w = wx)
                        case first =>
                          cases h0 : orB x 0 43 45
                          · have HM : Hid (Win s x (pSign s (j + 1)) s.size) := sg_no HW.out h0
                            clear h0
                            go_wp2
                            go_meet
                            case rel => exact ⟨x, rfl, HM.out, rfl⟩
                          · have hm1 : 1 ≤ x.size := byt_pos (s := x) (i := 0) (by have := or_is.1 h0; omega)
                            have HM : Hid (Win s (x.extract 1 x.size) (pSign s (j + 1)) s.size) := sg_yes HW.out h0 hm1
                            clear h0
                            go_wp2
                            go_meet
                            case rel => exact ⟨_, rfl, HM.out, rfl⟩
                        case rest =>
                          clear HW
                          obtain ⟨x, rfl, hwin, rfl⟩ := hcut
                          obtain ⟨q, hQ⟩ : ∃ q, q = pSign s (j + 1) := ⟨_, rfl⟩
                          rw [← hQ] at HI2 hwin
                          clear hQ
                          have HW : Hid (Win s x q s.size) := hwin
                          have hxs : x.size ≤ s.size := by have := hwin.2.2.1; omega
                          clear hwin
                          by_cases c1 : (x.size : Int) < 1
                          · go_wp2
                            go_ret
                            exact ⟨ret_bool (dec_false HI2.out (ex_not HW.out (.inl (by omega)))), rfl⟩
                          · by_cases c2 : 3 < (x.size : Int)
                            · go_wp2
                              go_ret
                              exact ⟨ret_bool (dec_false HI2.out (ex_not HW.out (.inr (by omega)))), rfl⟩
                            · go_wp2
                              go_loop [11] (fun i => ∃ t : Nat, t ≤ x.size ∧ i = .int .i64 t ∧ ∀ i, q ≤ i → i < q + t → digAt s i = true) (fun i => x.size - (intOf i).toNat)
                              case atStart => exact ⟨0, Nat.zero_le _, rfl, fun i h1 h2 => by omega⟩
                              case round =>
                                obtain ⟨t, ht, rfl, hg⟩ := hrel
                                have HG : Hid (∀ i, q ≤ i → i < q + t → digAt s i = true) := hg
                                clear hg
                                by_cases hlt2 : t < x.size
                                · by_cases h48 : ((x[t]'hlt2).toNat : Int) < 48
                                  · go_wp2
                                    go_ret
                                    exact ⟨ret_bool (dec_false HI2.out (ex_bad HW.out hlt2 (.inl (by omega)))), rfl⟩
                                  · by_cases h57 : 57 < ((x[t]'hlt2).toNat : Int)
                                    · go_wp2
                                      go_ret
                                      exact ⟨ret_bool (dec_false HI2.out (ex_bad HW.out hlt2 (.inr (by omega)))), rfl⟩
                                    · go_wp2
                                      go_round
                                      case rel => exact ⟨t + 1, by omega, by go_num, fun i h1 h2 => by
                                        by_cases e : i = q + t
                                        · rw [e]; exact (win_isdig HW.out hlt2 (by omega) (by omega)).2
                                        · exact HG.out i h1 (by omega)⟩
                                      case measure => simp [intOf]; omega
                                · obtain rfl : t = x.size := by omega
                                  go_wp2
                                  go_ret
                                  exact ⟨ret_bool (HI2.out.2 (ex_mk HW.out (by omega) (by omega) HG.out)).symm, rfl⟩
    · obtain rfl : j = s.size := by omega
      have HE : Hid (s.size = s.size ∨ orB s s.size 101 69 = true) := .inl rfl
      have hK : s.size ≤ s.size := Nat.le_refl _
      have HI : Hid (isDec s = true ↔ Mant s (pMinus s) s.size ∧ (s.size = s.size ∨ ExOk s (pSign s (s.size + 1)))) := dec_iff hK HNO.out HE.out
      clear HNO
      go_upto_region 8 with fail
      go_cut [5, 41] (fun v b wx => ∃ m, v = .string m ∧ Win s m 0 s.size ∧ b = .bool (eqB m 0 45) ∧ w = wx)
      case first =>
        by_cases h0 : 0 < s.size
        · go_wp2
          go_meet
          case rel => exact ⟨_, rfl, win_whole s, val_bool (eqAt_in 45 h0), rfl⟩
        · go_wp2
          go_meet
          case rel => exact ⟨_, rfl, win_whole s, val_bool (eqAt_out 45 (by omega) h0).symm, rfl⟩
      case rest =>
        obtain ⟨m, rfl, hwin, rfl, rfl⟩ := hcut
        have HW : Hid (Win s m 0 s.size) := hwin
        clear hwin
        go_upto_if 41 with fail
        go_cut [5] (fun v wx => ∃ m, v = .string m ∧ Win s m (pMinus s) s.size ∧ w = wx)
        case first =>
          cases h0 : eqB m 0 45
          · have HM : Hid (Win s m (pMinus s) s.size) := pm_no HW.out HE.out h0
            clear h0
            go_wp2
            go_meet
            case rel => exact ⟨m, rfl, HM.out, rfl⟩
          · have hm1 : 1 ≤ m.size := byt_pos (s := m) (i := 0) (by have := eq_is.1 h0; omega)
            have HM : Hid (Win s (m.extract 1 m.size) (pMinus s) s.size) := pm_yes HW.out HE.out h0 hm1
            clear h0
            go_wp2
            go_meet
            case rel => exact ⟨_, rfl, HM.out, rfl⟩
        case rest =>
          clear HW
          obtain ⟨m, rfl, hwin, rfl⟩ := hcut
          obtain ⟨a, hA⟩ : ∃ a, a = pMinus s := ⟨_, rfl⟩
          rw [← hA] at HI hwin
          clear hA
          have HW : Hid (Win s m a s.size) := hwin
          have hms : m.size ≤ s.size := by have := hwin.2.2.1; omega
          clear hwin
          go_wp2
          go_loop [6, 7, 8] (fun d g i => ∃ t : Nat, t ≤ m.size ∧ i = .int .i64 t ∧ d = .int .i64 (cnt (fun i => eqB s i 46) a t : Int) ∧ g = .int .i64 (cnt (digAt s) a t : Int) ∧ Good s a t) (fun _ _ i => m.size - (intOf i).toNat)
          case atStart => exact ⟨0, Nat.zero_le _, rfl, rfl, rfl, fun i h1 h2 => by omega⟩
          case round =>
            obtain ⟨t, ht, rfl, rfl, rfl, hgood⟩ := hrel
            have HG : Hid (Good s a t) := hgood
            clear hgood
            have hc1 := cnt_le (fun i => eqB s i 46) a t
            have hc2 := cnt_le (digAt s) a t
            by_cases hlt2 : t < m.size
            · by_cases h46 : ((m[t]'hlt2).toNat : Int) = 46
              · have H46 : Hid (((m[t]'hlt2).toNat : Int) = 46) := h46
                go_wp2
                go_round
                case rel => exact ⟨t + 1, by omega, by go_num, val_i64 (cnt_yes (win_is46 HW.out hlt2 H46.out).1).symm, val_i64 (cnt_no (win_is46 HW.out hlt2 H46.out).2).symm, HG.out.next (.inl (win_is46 HW.out hlt2 H46.out).1)⟩
                case measure => simp [intOf]; omega
              · have h46' : (((m[t]'hlt2).toNat : Int) == 46) = false := by simpa using h46
                by_cases h48 : 48 ≤ ((m[t]'hlt2).toNat : Int)
                · by_cases h57 : ((m[t]'hlt2).toNat : Int) ≤ 57
                  · go_wp2
                    go_round
                    case rel => exact ⟨t + 1, by omega, by go_num, val_i64 (cnt_no (win_isdig HW.out hlt2 h48 h57).1).symm, val_i64 (cnt_yes (win_isdig HW.out hlt2 h48 h57).2).symm, HG.out.next (.inr (win_isdig HW.out hlt2 h48 h57).2)⟩
                    case measure => simp [intOf]; omega
                  · go_wp2
                    go_ret
                    exact ⟨ret_bool (dec_false HI.out (win_bad HW.out hlt2 h46 (.inr (by omega)))), rfl⟩
                · go_wp2
                  go_ret
                  exact ⟨ret_bool (dec_false HI.out (win_bad HW.out hlt2 h46 (.inl (by omega)))), rfl⟩
            · obtain rfl : t = m.size := by omega
              by_cases c1 : 1 < (cnt (fun i => eqB s i 46) a m.size : Int)
              · go_wp2
                go_ret
                exact ⟨ret_bool (dec_false HI.out (mant_not HW.out (.inl c1))), rfl⟩
              · by_cases c2 : (cnt (digAt s) a m.size : Int) = 0
                · have C2 : Hid ((cnt (digAt s) a m.size : Int) = 0) := c2
                  go_wp2
                  go_ret
                  exact ⟨ret_bool (dec_false HI.out (mant_not HW.out (.inr C2.out))), rfl⟩
                · have c3 : ((cnt (digAt s) a m.size : Int) == 0) = false := by simpa using c2
                  have MK : Hid (Mant s a s.size) := mant_mk HW.out HG.out c1 c2
                  clear HG HW
                  go_wp2
                  go_ret
                  exact ⟨ret_bool (HI.out.2 ⟨MK.out, .inl trivial⟩).symm, rfl⟩
end Go.Proofs.Qxb6605315a
