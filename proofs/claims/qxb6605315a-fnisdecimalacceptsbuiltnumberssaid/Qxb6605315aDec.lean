import Derived.Test.Qxb6605315aPlain
import Derived.Test.Qxb6605315aRows
import Derived.WalkKit
import Derived.WalkLawsBesides
import Derived.WalkSpells
import Derived.Deep.DeepCutAuto
import Derived.Deep.Light
namespace Go.Proofs.Qxb6605315a
open Go.RowKit

theorem ret_bool {a b : Bool} (h : a = b) : Ending.returned (.bool a) = .returned (.bool b) := by rw [h]
theorem val_bool {a b : Bool} (h : a = b) : Value.bool a = Value.bool b := by rw [h]
theorem val_i64 {a b : Int} (h : a = b) : Value.int .i64 a = Value.int .i64 b := by rw [h]
theorem digAt_in {s : ByteArray} {k : Nat} (h : k < s.size) : digAt s k = decide (48 ≤ ((s[k]'h).toNat : Int) ∧ ((s[k]'h).toNat : Int) ≤ 57) := by
  rw [digAt, byt_in h]
  congr 1
  exact propext (by omega)
theorem digAt_out {s : ByteArray} {k : Nat} (h : ¬ k < s.size) : digAt s k = false := by
  rw [digAt, byt_out h]; rfl
/-- The byte at p is c. -/
def eqB (s : ByteArray) (p c : Nat) : Bool := decide (byt s p = c)
def orB (s : ByteArray) (p c d : Nat) : Bool := decide (byt s p = c ∨ byt s p = d)
theorem eqB_yes {s : ByteArray} {p c : Nat} (h : eqB s p c = true) : byt s p = c := by simpa [eqB] using h
theorem eqB_no {s : ByteArray} {p c : Nat} (h : eqB s p c = false) : ¬ byt s p = c := by simpa [eqB] using h
theorem orB_yes {s : ByteArray} {p c d : Nat} (h : orB s p c d = true) : byt s p = c ∨ byt s p = d := by simpa [orB] using h
theorem orB_no {s : ByteArray} {p c d : Nat} (h : orB s p c d = false) : ¬ (byt s p = c ∨ byt s p = d) := by
  unfold orB at h; exact of_decide_eq_false h
theorem digAt_hi {s : ByteArray} {k : Nat} (h : k < s.size) (h1 : 48 ≤ ((s[k]'h).toNat : Int)) : Value.bool (decide (((s[k]'h).toNat : Int) ≤ 57)) = Value.bool (digAt s k) := by
  rw [digAt_in h]; simp [h1]
theorem digAt_lo {s : ByteArray} {k : Nat} (h : k < s.size) (h1 : ¬ 48 ≤ ((s[k]'h).toNat : Int)) : Value.bool false = Value.bool (digAt s k) := by
  rw [digAt_in h]; simp [h1]

theorem eqAt_in {s : ByteArray} {k : Nat} (c : Nat) (h : k < s.size) : (((s[k]'h).toNat : Int) == (c : Int)) = eqB s k c := by
  rw [eqB, byt_in h, Bool.eq_iff_iff]
  simp only [beq_iff_eq, decide_eq_true_eq]
  omega
theorem eqAt_out {s : ByteArray} {k : Nat} (c : Nat) (hc : 0 < c) (h : ¬ k < s.size) : eqB s k c = false := by
  rw [eqB, byt_out h]; exact decide_eq_false (by omega)
theorem or2_yes {s : ByteArray} {k : Nat} (c1 c2 : Nat) (h : k < s.size) (h1 : ((s[k]'h).toNat : Int) = c1) : Value.bool true = Value.bool (orB s k c1 c2) := by
  rw [orB, byt_in h]
  exact val_bool (decide_eq_true (.inl (by omega))).symm
theorem or2_no {s : ByteArray} {k : Nat} (c1 c2 : Nat) (h : k < s.size) : Value.bool (((s[k]'h).toNat : Int) == (c1 : Int) || ((s[k]'h).toNat : Int) == (c2 : Int)) = Value.bool (orB s k c1 c2) := by
  rw [orB, byt_in h]
  refine val_bool ?_
  rw [Bool.eq_iff_iff]
  simp only [beq_iff_eq, decide_eq_true_eq, Bool.or_eq_true]
  omega
theorem or2_out {s : ByteArray} {k : Nat} (c1 c2 : Nat) (g1 : 0 < c1) (g2 : 0 < c2) (h : ¬ k < s.size) : Value.bool false = Value.bool (orB s k c1 c2) := by
  rw [orB, byt_out h]
  exact val_bool (decide_eq_false (by omega)).symm
theorem beq_dec (a b : Nat) : Value.bool ((a : Int) == (b : Int)) = Value.bool (decide (a = b)) := by
  refine val_bool ?_
  rw [Bool.eq_iff_iff]
  simp only [beq_iff_eq, decide_eq_true_eq]
  omega

/-- From the exponent's mark at p on. -/
theorem tail_exp {s : ByteArray} {p : Nat} (h : byt s p = 101 ∨ byt s p = 69) : tailOk s p = expOk s (p + 1) := by simp [tailOk, h]
theorem tail_end {s : ByteArray} {p : Nat} (h : ¬ (byt s p = 101 ∨ byt s p = 69)) : tailOk s p = decide (p = s.size) := by simp [tailOk, h]
theorem isDec_no {s : ByteArray} {p0 p1 : Nat} (h0 : p0 = pMinus s) (h1 : runEnd s p0 = p1) (h : (p1 : Int) - p0 + nFrac s p1 = 0) : isDec s = false := by
  subst h0; subst h1
  have := runEnd_ge s (pMinus s)
  unfold isDec
  rw [if_pos (by omega)]
theorem isDec_yes {s : ByteArray} {p0 p1 : Nat} (h0 : p0 = pMinus s) (h1 : runEnd s p0 = p1) (h : ¬ (p1 : Int) - p0 + nFrac s p1 = 0) : isDec s = tailOk s (pDot s p1) := by
  subst h0; subst h1
  have := runEnd_ge s (pMinus s)
  unfold isDec
  rw [if_neg (by omega)]
theorem exp_no {s : ByteArray} {p q k : Nat} (hq : q = pSign s p) (hk : runEnd s q = k) (h : (k : Int) - q = 0 ∨ 3 < (k : Int) - q) : expOk s p = false := by
  subst hq; subst hk
  have := runEnd_ge s (pSign s p)
  unfold expOk
  exact decide_eq_false (by omega)
theorem exp_yes {s : ByteArray} {p q k : Nat} (hq : q = pSign s p) (hk : runEnd s q = k) (h1 : ¬ (k : Int) - q = 0) (h2 : ¬ 3 < (k : Int) - q) : expOk s p = ((k : Int) == (s.size : Int)) := by
  subst hq; subst hk
  have := runEnd_ge s (pSign s p)
  unfold expOk
  rw [Bool.eq_iff_iff]
  simp only [beq_iff_eq, decide_eq_true_eq]
  omega

set_option maxHeartbeats 2000000 in
set_option maxRecDepth 10000 in
theorem isDecimal_any (s : ByteArray) (w : World) (hs : s.size ≤ maxLen) :
    Calls Try.prog 9 #[.string s] w fun e w' => e = .returned (.bool (isDec s)) ∧ w' = w := by
  unfold maxLen at hs
  go_enter Try.func9, Try.ntmps9
  go_upto_region 2 with fail
  go_cut [15] (fun b wx => b = .bool (eqB s 0 45) ∧ w = wx)
  case first =>
    by_cases hlt : 0 < s.size
    · go_wp2
      go_meet
      case rel => exact ⟨val_bool (eqAt_in 45 hlt), rfl⟩
    · go_wp2
      go_meet
      case rel => exact ⟨val_bool (eqAt_out 45 (by omega) hlt).symm, rfl⟩
  case rest =>
    obtain ⟨rfl, rfl⟩ := hcut
    go_upto_if 15 with fail
    go_cut [3] (fun i wx => i = .int .i64 (pMinus s) ∧ pMinus s ≤ s.size ∧ w = wx)
    case first =>
      cases h0 : eqB s 0 45
      · have e0 : Hid (pMinus s = 0) := (show pMinus s = 0 by rw [pMinus, if_neg (eqB_no h0)])
        clear h0
        go_wp2
        go_meet
        case rel => exact ⟨by rw [e0.out]; rfl, by rw [e0.out]; omega, rfl⟩
      · have e0 : Hid (pMinus s = 1) := (show pMinus s = 1 by rw [pMinus, if_pos (eqB_yes h0)])
        have hlt : 0 < s.size := byt_pos (by have := eqB_yes h0; omega)
        clear h0
        go_wp2
        go_meet
        case rel => exact ⟨by rw [e0.out]; rfl, by rw [e0.out]; omega, rfl⟩
    case rest =>
      obtain ⟨rfl, hp0, rfl⟩ := hcut
      obtain ⟨p0, hP0⟩ : ∃ p, p = pMinus s := ⟨_, rfl⟩
      have HP0 : Hid (p0 = pMinus s) := hP0
      rw [← hP0] at hp0 ⊢
      clear hP0
      go_wp2
      go_loop [3, 4] (fun i d => ∃ k : Nat, p0 ≤ k ∧ k ≤ s.size ∧ i = .int .i64 k ∧ d = .int .i64 ((k : Int) - p0) ∧ runEnd s p0 = runEnd s k) (fun i _ => s.size - (intOf i).toNat)
      case atStart => exact ⟨p0, Nat.le_refl _, hp0, rfl, by simp, rfl⟩
      case round =>
        obtain ⟨k, hk0, hk, rfl, rfl, hrun⟩ := hrel
        have HR : Hid (runEnd s p0 = runEnd s k) := hrun
        clear hrun
        go_upto_region 5 with fail
        go_cut [27] (fun b wx => b = .bool (digAt s k) ∧ w = wx)
        case first =>
          by_cases hlt : k < s.size
          · by_cases h48 : 48 ≤ ((s[k]'hlt).toNat : Int)
            · go_wp2
              go_meet
              case rel => exact ⟨digAt_hi hlt h48, rfl⟩
            · go_wp2
              go_meet
              case rel => exact ⟨digAt_lo hlt (by omega), rfl⟩
          · go_wp2
            go_meet
            case rel => exact ⟨val_bool (digAt_out hlt).symm, rfl⟩
        case rest =>
          obtain ⟨rfl, rfl⟩ := hcut
          cases hd : digAt s k
          · have HP1 : Hid (runEnd s p0 = k) := HR.out.trans (runEnd_stop hd)
            clear hd HR
            obtain ⟨p1, rfl⟩ : ∃ p1 : Nat, p1 = k := ⟨k, rfl⟩
            go_upto_region 8 with fail
            go_cut [41] (fun b wx => b = .bool (eqB s p1 46) ∧ w = wx)
            case first =>
              by_cases hlt : p1 < s.size
              · go_wp2
                go_meet
                case rel => exact ⟨val_bool (eqAt_in 46 hlt), rfl⟩
              · go_wp2
                go_meet
                case rel => exact ⟨val_bool (eqAt_out 46 (by omega) hlt).symm, rfl⟩
            case rest =>
              obtain ⟨rfl, rfl⟩ := hcut
              go_upto_if 41 with fail
              go_cut [3, 4] (fun i d wx => i = .int .i64 (pDot s p1) ∧ d = .int .i64 ((p1 : Int) - p0 + nFrac s p1) ∧ pDot s p1 ≤ s.size ∧ nFrac s p1 ≤ s.size ∧ w = wx)
              case first =>
                cases hdot : eqB s p1 46
                · have e1 : Hid (pDot s p1 = p1) := (show pDot s p1 = p1 by rw [pDot, if_neg (eqB_no hdot)])
                  have e2 : Hid (nFrac s p1 = 0) := (show nFrac s p1 = 0 by rw [nFrac, if_neg (eqB_no hdot)])
                  clear hdot
                  go_wp2
                  go_meet
                  case rel => exact ⟨by rw [e1.out], val_i64 (by rw [e2.out]; simp), by rw [e1.out]; exact hk, by rw [e2.out]; omega, rfl⟩
                · have hlt := byt_pos (s := s) (i := p1) (by have := eqB_yes hdot; omega)
                  have HDOT : Hid (byt s p1 = 46) := eqB_yes hdot
                  clear hdot
                  go_wp2
                  go_loop [3, 4] (fun i d => ∃ k : Nat, p1 + 1 ≤ k ∧ k ≤ s.size ∧ i = .int .i64 k ∧ d = .int .i64 ((p1 : Int) - p0 + ((k : Int) - (p1 + 1))) ∧ runEnd s (p1 + 1) = runEnd s k) (fun i _ => s.size - (intOf i).toNat)
                  case atStart => exact ⟨p1 + 1, Nat.le_refl _, by omega, by go_num, by go_num, rfl⟩
                  case round =>
                    obtain ⟨k, hk1, hks, rfl, rfl, hrun⟩ := hrel
                    have HR : Hid (runEnd s (p1 + 1) = runEnd s k) := hrun
                    clear hrun
                    go_upto_region 10 with fail
                    go_cut [53] (fun b wx => b = .bool (digAt s k) ∧ w = wx)
                    case first =>
                      by_cases hlt : k < s.size
                      · by_cases h48 : 48 ≤ ((s[k]'hlt).toNat : Int)
                        · go_wp2
                          go_meet
                          case rel => exact ⟨digAt_hi hlt h48, rfl⟩
                        · go_wp2
                          go_meet
                          case rel => exact ⟨digAt_lo hlt (by omega), rfl⟩
                      · go_wp2
                        go_meet
                        case rel => exact ⟨val_bool (digAt_out hlt).symm, rfl⟩
                    case rest =>
                      obtain ⟨rfl, rfl⟩ := hcut
                      cases hd : digAt s k
                      · have HP2 : Hid (runEnd s (p1 + 1) = k) := HR.out.trans (runEnd_stop hd)
                        clear hd HR
                        go_wp2
                        go_meet
                        case rel =>
                          have e1 : pDot s p1 = k := by rw [pDot, if_pos HDOT.out]; exact HP2.out
                          have e2 : nFrac s p1 = k - (p1 + 1) := by rw [nFrac, if_pos HDOT.out, HP2.out]
                          exact ⟨by rw [e1], val_i64 (by rw [e2]; omega), by omega, by omega, rfl⟩
                      · have HD : Hid (digAt s k = true) := hd
                        clear hd
                        have hlt := digAt_lt HD.out
                        go_wp2
                        go_round
                        case rel => exact ⟨k + 1, by omega, by omega, by go_num, by go_num, by rw [HR.out]; exact runEnd_step HD.out⟩
                        case measure => simp [intOf]; omega
              case rest =>
                obtain ⟨rfl, rfl, hp2, hnf, rfl⟩ := hcut
                by_cases hz : (p1 : Int) - p0 + nFrac s p1 = 0
                · have HZ : Hid ((p1 : Int) - p0 + nFrac s p1 = 0) := hz
                  go_wp2
                  go_ret
                  exact ⟨ret_bool (isDec_no HP0.out HP1.out HZ.out).symm, rfl⟩
                · have HY : Hid (isDec s = tailOk s (pDot s p1)) := isDec_yes HP0.out HP1.out hz
                  obtain ⟨p2, hP2⟩ : ∃ p, p = pDot s p1 := ⟨_, rfl⟩
                  have HY2 : Hid (isDec s = tailOk s p2) := (show isDec s = tailOk s p2 by rw [hP2]; exact HY.out)
                  rw [← hP2] at hp2 ⊢
                  clear hP2 HY
                  have hz0 : ((p1 : Int) - p0 + nFrac s p1 == 0) = false := by simpa using hz
                  go_upto_region 15 with fail
                  go_cut [75] (fun b wx => b = .bool (orB s p2 101 69) ∧ w = wx)
                  case first =>
                    by_cases hlt : p2 < s.size
                    · by_cases hc1 : ((s[p2]'hlt).toNat : Int) = 101
                      · go_wp2
                        go_meet
                        case rel => exact ⟨or2_yes 101 69 hlt hc1, rfl⟩
                      · go_wp2
                        go_meet
                        case rel => exact ⟨or2_no 101 69 hlt, rfl⟩
                    · go_wp2
                      go_meet
                      case rel => exact ⟨or2_out 101 69 (by omega) (by omega) hlt, rfl⟩
                  case rest =>
                    obtain ⟨rfl, rfl⟩ := hcut
                    cases hE : orB s p2 101 69
                    · have he := orB_no hE
                      have HT : Hid (isDec s = decide (p2 = s.size)) := HY2.out.trans (tail_end he)
                      clear he HY2 hE
                      go_wp2
                      go_ret
                      exact ⟨by rw [HT.out]; exact congrArg Ending.returned (beq_dec p2 s.size), rfl⟩
                    · have he := orB_yes hE
                      have hlt2 : p2 < s.size := byt_pos (by omega)
                      have HT : Hid (isDec s = expOk s (p2 + 1)) := HY2.out.trans (tail_exp he)
                      clear he HY2 hE
                      go_upto_region 17 with fail
                      go_cut [93] (fun b wx => b = .bool (orB s (p2 + 1) 45 43) ∧ w = wx)
                      case first =>
                        by_cases hlt : (p2 + 1) < s.size
                        · by_cases hc1 : ((s[(p2 + 1)]'hlt).toNat : Int) = 45
                          · go_wp2
                            go_meet
                            case rel => exact ⟨or2_yes 45 43 hlt hc1, rfl⟩
                          · go_wp2
                            go_meet
                            case rel => exact ⟨or2_no 45 43 hlt, rfl⟩
                        · go_wp2
                          go_meet
                          case rel => exact ⟨or2_out 45 43 (by omega) (by omega) hlt, rfl⟩
                      case rest =>
                        obtain ⟨rfl, rfl⟩ := hcut
                        go_upto_if 93 with fail
                        go_cut [3] (fun i wx => i = .int .i64 (pSign s (p2 + 1)) ∧ pSign s (p2 + 1) ≤ s.size ∧ w = wx)
                        case first =>
                          cases hS : orB s (p2 + 1) 45 43
                          · have hsg := orB_no hS
                            have e1 : Hid (pSign s (p2 + 1) = p2 + 1) := (show pSign s (p2 + 1) = p2 + 1 by rw [pSign, if_neg hsg])
                            clear hsg hS
                            go_wp2
                            go_meet
                            case rel => exact ⟨by rw [e1.out]; go_num, by rw [e1.out]; omega, rfl⟩
                          · have hsg := orB_yes hS
                            have e1 : Hid (pSign s (p2 + 1) = p2 + 1 + 1) := (show pSign s (p2 + 1) = p2 + 1 + 1 by rw [pSign, if_pos hsg])
                            have hl3 : p2 + 1 < s.size := byt_pos (by omega)
                            clear hsg hS
                            go_wp2
                            go_meet
                            case rel => exact ⟨by rw [e1.out]; go_num, by rw [e1.out]; omega, rfl⟩
                        case rest =>
                          obtain ⟨rfl, hq, rfl⟩ := hcut
                          obtain ⟨q, hQ⟩ : ∃ q, q = pSign s (p2 + 1) := ⟨_, rfl⟩
                          have HQ : Hid (q = pSign s (p2 + 1)) := hQ
                          rw [← hQ] at hq ⊢
                          clear hQ
                          go_wp2
                          go_loop [3, 5] (fun i d => ∃ k : Nat, q ≤ k ∧ k ≤ s.size ∧ i = .int .i64 k ∧ d = .int .i64 ((k : Int) - q) ∧ runEnd s q = runEnd s k) (fun i _ => s.size - (intOf i).toNat)
                          case atStart => exact ⟨q, Nat.le_refl _, hq, rfl, by simp, rfl⟩
                          case round =>
                            obtain ⟨k, hkq, hks, rfl, rfl, hrun⟩ := hrel
                            have HR : Hid (runEnd s q = runEnd s k) := hrun
                            clear hrun
                            go_upto_region 20 with fail
                            go_cut [105] (fun b wx => b = .bool (digAt s k) ∧ w = wx)
                            case first =>
                              by_cases hlt : k < s.size
                              · by_cases h48 : 48 ≤ ((s[k]'hlt).toNat : Int)
                                · go_wp2
                                  go_meet
                                  case rel => exact ⟨digAt_hi hlt h48, rfl⟩
                                · go_wp2
                                  go_meet
                                  case rel => exact ⟨digAt_lo hlt (by omega), rfl⟩
                              · go_wp2
                                go_meet
                                case rel => exact ⟨val_bool (digAt_out hlt).symm, rfl⟩
                            case rest =>
                              obtain ⟨rfl, rfl⟩ := hcut
                              cases hd : digAt s k
                              · have HK : Hid (runEnd s q = k) := HR.out.trans (runEnd_stop hd)
                                clear hd HR
                                by_cases x0 : (k : Int) - q = 0
                                · have HX : Hid ((k : Int) - q = 0) := x0
                                  go_wp2
                                  go_ret
                                  exact ⟨ret_bool (HT.out.trans (exp_no HQ.out HK.out (.inl HX.out))).symm, rfl⟩
                                · have x00 : ((k : Int) - q == 0) = false := by simpa using x0
                                  by_cases x3 : 3 < (k : Int) - q
                                  · go_wp2
                                    go_ret
                                    exact ⟨ret_bool (HT.out.trans (exp_no HQ.out HK.out (.inr (by omega)))).symm, rfl⟩
                                  · go_wp2
                                    go_ret
                                    exact ⟨ret_bool (HT.out.trans (exp_yes HQ.out HK.out (by omega) (by omega))).symm, rfl⟩
                              · have HD : Hid (digAt s k = true) := hd
                                clear hd
                                have hlt := digAt_lt HD.out
                                go_wp2
                                go_round
                                case rel => exact ⟨k + 1, by omega, by omega, by go_num, by go_num, by rw [HR.out]; exact runEnd_step HD.out⟩
                                case measure => simp [intOf]; omega
          · have HD : Hid (digAt s k = true) := hd
            clear hd
            have hlt := digAt_lt HD.out
            go_wp2
            go_round
            case rel => exact ⟨k + 1, by omega, by omega, by go_num, by go_num, by rw [HR.out]; exact runEnd_step HD.out⟩
            case measure => simp [intOf]; omega
end Go.Proofs.Qxb6605315a
