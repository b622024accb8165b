/-
  The law of addDependencies: the walk.
-/
import Derived.Test.Qxb6605286aZZAdd
import Derived.Test.Qxb6605286aAddM
import Derived.Deep.DeepCutAuto
namespace Go.Proofs.Qxb6605286a
open Go.RowKit

set_option maxHeartbeats 8000000 in
set_option maxRecDepth 10000 in
theorem lawA_any (w : World) (n ns F R m r c0 c1 c2 c3 c4 c5 : Nat) (a0 a1 a2 a3 a4 a5 : Option Addr) (zr : Nat → Int) (s f : Nat → Int) (rows : Nat → Value) (l : Nat → Nat) (D : Nat → Nat → T4) (E0 : Nat → T3) (Q0 : Nat → T4)
    (hn : n ≤ 16384) (hns : ns ≤ 16384) (hF : F ≤ 16384) (hR : R ≤ 16384) (hm : m ≤ 16384) (hr : r ≤ 16384) (hsz : 16 * n + 4 * ns + 4 * F + 24 * R + 12 * m + 32 * r ≤ 1048576)
    (z0 : a0 = none → n = 0 ∧ c0 = 0) (z1 : a1 = none → ns = 0 ∧ c1 = 0) (z2 : a2 = none → F = 0 ∧ c2 = 0) (z3 : a3 = none → R = 0 ∧ c3 = 0) (z4 : a4 = none → m = 0 ∧ c4 = 0) (z5 : a5 = none → r = 0 ∧ c5 = 0)
    (h0 : Cells w a0 (n * 2) (fun i => .int .i64 (zr i))) (h1 : Cells w a1 ns (fun i => .int .i32 (s i))) (h2 : Cells w a2 F (fun i => .int .i32 (f i))) (h3 : Cells w a3 R rows) (hrows : RowsIn w R rows l D 0)
    (h4 : Cells w a4 (m * 3) (eF E0)) (h5 : Cells w a5 (r * 4) (rF Q0)) (hlb : ∀ t, l t ≤ 9223372036854775807)
    (hs32 : ∀ i, -2147483648 ≤ s i ∧ s i ≤ 2147483647) (hf32 : ∀ i, -2147483648 ≤ f i ∧ f i ≤ 2147483647) :
    Calls Try.prog 5 #[.slice a0 n c0, .slice a1 ns c1, .slice a2 F c2, .slice a3 R c3, .slice a4 m c4, .slice a5 r c5] w fun e w' => e = .returned (.bool true) ∧ Below w.heap.size w w' := by
  have HC0 : Hid (Cells w a0 (n * 2) (fun i => .int .i64 (zr i))) := h0
  have HC1 : Hid (Cells w a1 ns (fun i => .int .i32 (s i))) := h1
  have HC2 : Hid (Cells w a2 F (fun i => .int .i32 (f i))) := h2
  have HC3 : Hid (Cells w a3 R rows) := h3
  have HC4 : Hid (Cells w a4 (m * 3) (eF E0)) := h4
  have HC5 : Hid (Cells w a5 (r * 4) (rF Q0)) := h5
  have HRW : Hid (RowsIn w R rows l D 0) := hrows
  have HZ0 : Hid (a0 = none → n = 0 ∧ c0 = 0) := z0
  have HZ1 : Hid (a1 = none → ns = 0 ∧ c1 = 0) := z1
  have HZ2 : Hid (a2 = none → F = 0 ∧ c2 = 0) := z2
  have HZ3 : Hid (a3 = none → R = 0 ∧ c3 = 0) := z3
  have HZ4 : Hid (a4 = none → m = 0 ∧ c4 = 0) := z4
  have HZ5 : Hid (a5 = none → r = 0 ∧ c5 = 0) := z5
  have HLB : Hid (∀ t, l t ≤ 9223372036854775807) := hlb
  have HS32 : Hid (∀ i, -2147483648 ≤ s i ∧ s i ≤ 2147483647) := hs32
  have HF32 : Hid (∀ i, -2147483648 ≤ f i ∧ f i ≤ 2147483647) := hf32
  clear h0 h1 h2 h3 h4 h5 hrows z0 z1 z2 z3 z4 z5 hlb hs32 hf32
  go_enter Try.func5, Try.ntmps5
  go_wp2
  obtain ⟨S0, hS0⟩ : ∃ S0 : Nat, S0 = 16 * n + 4 * ns + 4 * F + 24 * R + 12 * m + 32 * r := ⟨_, rfl⟩
  have HS0 : Hid (S0 = 16 * n + 4 * ns + 4 * F + 24 * R + 12 * m + 32 * r) := hS0
  go_loopw [13, 89] (fun z i wr => ∃ k : Nat, k ≤ R ∧ i = .int .i64 k ∧ z = .int .i64 ((S0 + 24 * tot l k : Nat) : Int) ∧ S0 + 24 * tot l k ≤ 1048576 ∧ (∀ t, t < k → l t ≤ 4096) ∧ w = wr) (fun _ i _ => R - (intOf i).toNat)
  case atStart =>
    refine ⟨0, Nat.zero_le _, rfl, ?_, by simp [tot]; omega, fun t ht => by omega, rfl⟩
    simp only [tot, Nat.mul_zero, Nat.add_zero]
    rw [HS0.out]; congr 1
  case round => as_aux_lemma =>
    obtain ⟨k, hk, rfl, rfl, hle, hall, rfl⟩ := hrel
    have HALL : Hid (∀ t, t < k → l t ≤ 4096) := hall
    obtain ⟨T, hT⟩ : ∃ T, T = tot l k := ⟨_, rfl⟩
    have HT : Hid (T = tot l k) := hT
    rw [← hT] at hle ⊢
    clear hall hT hS0
    by_cases hlt : k < R
    · skip
      obtain ⟨b, off, ex, hb, hcl⟩ := HC3.out.at (by omega)
      subst ex
      obtain ⟨ak, ck, hrk, _, _, _⟩ := HRW.out k hlt
      have c0' : w.cell? ⟨b, off + k, none⟩ = some (.slice ak (l k) ck) := by rw [← hrk]; exact hcl k hlt
      have hlk := HLB.out k
      obtain ⟨lk, hlk'⟩ : ∃ lk, lk = l k := ⟨_, rfl⟩
      have HLK : Hid (lk = l k) := hlk'
      rw [← hlk'] at c0' hlk
      clear hcl hrk hlk'
      by_cases q1 : 4096 < lk
      · go_wp2
        go_ret
        exact ⟨rfl, Below.refl _ _⟩
      · by_cases q2 : 1048576 < S0 + 24 * T + 24 * lk
        · go_wp2
          go_ret
          exact ⟨rfl, Below.refl _ _⟩
        · go_wp2
          go_roundw
          case rel =>
            have e : tot l (k + 1) = T + lk := by rw [HT.out, HLK.out]; rfl
            have R1 : S0 + 24 * tot l (k + 1) ≤ 1048576 := by rw [e]; omega
            have R2 : ∀ t, t < k + 1 → l t ≤ 4096 := fun t ht => by
              by_cases et : t = k
              · rw [et, ← HLK.out]; omega
              · exact HALL.out t (by omega)
            have R3 : Value.int .i64 ((S0 + 24 * T : Nat) + 24 * (lk : Int)) = .int .i64 ((S0 + 24 * tot l (k + 1) : Nat) : Int) := by rw [e]; congr 1; push_cast; omega
            first
              | exact ⟨k + 1, by omega, by go_num, R3, R1, R2, trivial⟩
              | ((repeat apply Exists.intro); exact ⟨⟨k + 1, by omega, by go_num, R3, R1, R2, trivial⟩, rfl⟩)
              | (refine ⟨k + 1, by omega, by go_num, ?_, R1, R2, trivial⟩; rw [e]; congr 1; push_cast; omega)
          case measure => simp [intOf]; omega
    · obtain rfl : k = R := by omega
      by_cases hnn : n = ns
      · subst hnn
        go_wp2
        go_loopw [16] (fun i wr => ∃ t : Nat, t ≤ n ∧ i = .int .i64 t ∧ (∀ x, x < t → (0 ≤ s x ∧ s x < F) ∧ ((x = 0 ∨ s (x - 1) ≠ s x) → f (s x).toNat = x)) ∧ w = wr) (fun i _ => n - (intOf i).toNat)
        case atStart => exact ⟨0, Nat.zero_le _, rfl, fun t ht => by omega, rfl⟩
        case round => as_aux_lemma =>
          obtain ⟨t, ht, rfl, hok, rfl⟩ := hrel
          have HOK : Hid (∀ x, x < t → (0 ≤ s x ∧ s x < F) ∧ ((x = 0 ∨ s (x - 1) ≠ s x) → f (s x).toNat = x)) := hok
          clear hok
          by_cases hlt2 : t < n
          · skip
            obtain ⟨b1, off1, ex1, hb1, hcl1⟩ := HC1.out.at (by omega)
            subst ex1
            obtain ⟨y, hy⟩ : ∃ y, y = s t := ⟨_, rfl⟩
            have HY : Hid (y = s t) := hy
            have k0 : w.cell? ⟨b1, off1 + t, none⟩ = some (.int .i32 y) := by rw [hy]; exact hcl1 t hlt2
            have hyb : -2147483648 ≤ y ∧ y ≤ 2147483647 := by rw [hy]; exact HS32.out t
            clear hy
            by_cases y0 : y < 0
            · clear hcl1
              go_wp2
              go_ret
              exact ⟨rfl, Below.refl _ _⟩
            · by_cases y1 : (F : Int) ≤ y
              · clear hcl1
                go_wp2
                go_ret
                exact ⟨rfl, Below.refl _ _⟩
              · obtain ⟨u, hu⟩ : ∃ u : Nat, y = u := ⟨y.toNat, by omega⟩
                subst hu
                have huF : u < F := by omega
                obtain ⟨b2, off2, ex2, hb2, hcl2⟩ := HC2.out.at (by omega)
                subst ex2
                obtain ⟨x, hx⟩ : ∃ x, x = f u := ⟨_, rfl⟩
                have HX : Hid (x = f u) := hx
                have k2 : w.cell? ⟨b2, off2 + u, none⟩ = some (.int .i32 x) := by rw [hx]; exact hcl2 u huF
                have hxb : -2147483648 ≤ x ∧ x ≤ 2147483647 := by rw [hx]; exact HF32.out u
                clear hx hcl2
                by_cases t0 : t = 0
                · subst t0
                  rw [Nat.add_zero] at k0
                  clear hcl1
                  by_cases x0 : x = 0
                  · have HX0 : Hid (x = 0) := x0
                    subst x0
                    go_wp2
                    go_roundw
                    case rel =>
                      have RR : ∀ x, x < 0 + 1 → (0 ≤ s x ∧ s x < F) ∧ ((x = 0 ∨ s (x - 1) ≠ s x) → f (s x).toNat = x) := by
                        intro x hx
                        obtain rfl : x = 0 := by omega
                        rw [← HY.out]
                        exact ⟨⟨by omega, by omega⟩, fun _ => by rw [Int.toNat_natCast, ← HX.out]; rfl⟩
                      first | exact ⟨0 + 1, by omega, by go_num, RR, trivial⟩ | exact ⟨0 + 1, by omega, by go_num, RR⟩
                    case measure => simp [intOf]; omega
                  · have hx0 : (x != 0) = true := by simpa using x0
                    go_wp2
                    go_ret
                    exact ⟨rfl, Below.refl _ _⟩
                · obtain ⟨p, hp⟩ : ∃ p, p = s (t - 1) := ⟨_, rfl⟩
                  have HP : Hid (p = s (t - 1)) := hp
                  have k1 : w.cell? ⟨b1, off1 + (t - 1), none⟩ = some (.int .i32 p) := by rw [hp]; exact hcl1 (t - 1) (by omega)
                  have hpb : -2147483648 ≤ p ∧ p ≤ 2147483647 := by rw [hp]; exact HS32.out (t - 1)
                  obtain ⟨t', rfl⟩ : ∃ t', t = t' + 1 := ⟨t - 1, by omega⟩
                  rw [Nat.add_sub_cancel] at k1
                  clear hcl1 hp t0
                  by_cases p0 : (u : Int) < p
                  · go_wp2
                    go_ret
                    exact ⟨rfl, Below.refl _ _⟩
                  · by_cases p1 : p = (u : Int)
                    · have HP1 : Hid (p = (u : Int)) := p1
                      subst p1
                      go_wp2
                      go_roundw
                      case rel =>
                        have RR : ∀ x, x < t' + 1 + 1 → (0 ≤ s x ∧ s x < F) ∧ ((x = 0 ∨ s (x - 1) ≠ s x) → f (s x).toNat = x) := by
                         intro x hx
                         by_cases ex : x = t' + 1
                         · subst ex
                           refine ⟨by rw [← HY.out]; omega, fun h => ?_⟩
                           rcases h with h | h
                           · omega
                           · exact absurd (HP.out.symm.trans HY.out) h
                         · exact HOK.out x (by omega)
                        first | exact ⟨t' + 1 + 1, by omega, by go_num, RR, trivial⟩ | exact ⟨t' + 1 + 1, by omega, by go_num, RR⟩
                      case measure => simp [intOf]; omega
                    · have hpne : (p != (u : Int)) = true := by simpa using p1
                      have HPN : Hid (¬ p = (u : Int)) := p1
                      clear p1
                      by_cases x0 : x = ((t' + 1 : Nat) : Int)
                      · have HX0 : Hid (x = ((t' + 1 : Nat) : Int)) := x0
                        subst x0
                        go_wp2
                        go_roundw
                        case rel =>
                          have RR : ∀ x, x < t' + 1 + 1 → (0 ≤ s x ∧ s x < F) ∧ ((x = 0 ∨ s (x - 1) ≠ s x) → f (s x).toNat = x) := by
                           intro x hx
                           by_cases ex : x = t' + 1
                           · subst ex
                             exact ⟨by rw [← HY.out]; omega, fun _ => by rw [← HY.out, Int.toNat_natCast, ← HX.out]⟩
                           · exact HOK.out x (by omega)
                          first | exact ⟨t' + 1 + 1, by omega, by go_num, RR, trivial⟩ | exact ⟨t' + 1 + 1, by omega, by go_num, RR⟩
                        case measure => simp [intOf]; omega
                      · have hx0 : (x != ((t' + 1 : Nat) : Int)) = true := by simpa using x0
                        have hx1 : ¬ x = (t' : Int) + 1 := by omega
                        go_wp2
                        go_ret
                        exact ⟨rfl, Below.refl _ _⟩
          · obtain rfl : t = n := by omega
            have HPOS : Hid (∀ x, x < t → 0 ≤ f (s x).toNat ∧ f (s x).toNat ≤ x ∧ (same s x = true ↔ f (s x).toNat < x)) := pos_plain (fun x hx => ⟨(HOK.out x hx).1.1, (HOK.out x hx).2⟩)
            have HTOT : Hid (tot l k ≤ 65536) := (by rw [← HT.out]; exact (show T ≤ 65536 by omega))
            have HSF : Hid (∀ x, x < t → 0 ≤ s x ∧ s x < F) := fun x hx => (HOK.out x hx).1
            clear HOK HS32 HF32 HLB HS0
            go_wp2_with fail
            refine (copyRefs_any a0 t c0 _ w hn (fun _ => rfl) HZ0.out HC0.out).mono ?_
            rintro e w1 ⟨x0, d0, rfl, ho0, hg0⟩
            have X0 : Hid (Cells w1 x0 (t * 2) (fun i => .int .i64 (zr i))) := cells_of_own ho0
            have G1 : Hid (w.grownBy w1 none) := hg0
            clear ho0 hg0
            go_wp2_with fail
            refine (copyInt32s_any a1 t c1 s w1 hns HZ1.out (HC1.out.mono G1.out (by simp))).mono ?_
            rintro e w2 ⟨x1, d1, rfl, ho1, hg1⟩
            have X1 : Hid (Cells w2 x1 t (fun i => .int .i32 (s i))) := ho1
            have G2 : Hid (w1.grownBy w2 none) := hg1
            clear ho1 hg1
            go_wp2_with fail
            refine (copyInt32s_any a2 F c2 f w2 hF HZ2.out (HC2.out.mono (grown_trans G1.out G2.out) (by simp))).mono ?_
            rintro e w3 ⟨x2, d2, rfl, ho2, hg2⟩
            have X2 : Hid (Cells w3 x2 F (fun i => .int .i32 (f i))) := ho2
            have G3 : Hid (w2.grownBy w3 none) := hg2
            have K3 : Hid (w.grownBy w3 none) := grown_trans (grown_trans G1.out G2.out) hg2
            clear ho2 hg2
            go_wp2_with fail
            refine (copyReads_any a3 k c3 rows l D w3 hR HALL.out HZ3.out (HC3.out.mono K3.out (by simp)) (HRW.out.mono K3.out (fun _ hb => nomatch hb))).mono ?_
            rintro e w4 ⟨x3, d3, rows', rfl, ho3, hr3, hg3⟩
            have X3 : Hid (Cells w4 x3 k rows') := ho3
            have XR : Hid (RowsIn w4 k rows' l D 0) := hr3
            have G4 : Hid (w3.grownBy w4 none) := hg3
            have K4 : Hid (w.grownBy w4 none) := grown_trans K3.out hg3
            clear ho3 hr3 hg3
            go_wp2_with fail
            refine (copyEdges_any a4 m c4 _ w4 (by omega) (eF_one E0) HZ4.out (HC4.out.mono K4.out (by simp))).mono ?_
            rintro e w5 ⟨x4, d4, rfl, ho4, hg4⟩
            have X4 : Hid (Cells w5 x4 (m * 3) (eF E0)) := cells_of_own ho4
            have G5 : Hid (w4.grownBy w5 none) := hg4
            have K5 : Hid (w.grownBy w5 none) := grown_trans K4.out hg4
            clear ho4 hg4
            go_wp2_with fail
            refine (copyReasons_any a5 r c5 _ w5 hr (rF_one Q0) HZ5.out (HC5.out.mono K5.out (by simp))).mono ?_
            rintro e w6 ⟨x5, d5, rfl, ho5, hg5⟩
            have X5 : Hid (Cells w6 x5 (r * 4) (rF Q0)) := cells_of_own ho5
            have G6 : Hid (w5.grownBy w6 none) := hg5
            have K6 : Hid (w.grownBy w6 none) := grown_trans K5.out hg5
            clear ho5 hg5
            have Y0 : Hid (Cells w6 x0 (t * 2) (fun i => .int .i64 (zr i))) := X0.out.mono (grown_trans (grown_trans (grown_trans (grown_trans G2.out G3.out) G4.out) G5.out) G6.out) (by simp)
            have Y1 : Hid (Cells w6 x1 t (fun i => .int .i32 (s i))) := X1.out.mono (grown_trans (grown_trans (grown_trans G3.out G4.out) G5.out) G6.out) (by simp)
            have Y2 : Hid (Cells w6 x2 F (fun i => .int .i32 (f i))) := X2.out.mono (grown_trans (grown_trans G4.out G5.out) G6.out) (by simp)
            have Y3 : Hid (Cells w6 x3 k rows') := X3.out.mono (grown_trans G5.out G6.out) (by simp)
            have YR : Hid (RowsIn w6 k rows' l D 0) := XR.out.mono (grown_trans G5.out G6.out) (fun _ hb => nomatch hb)
            have Y4 : Hid (Cells w6 x4 (m * 3) (eF E0)) := X4.out.mono G6.out (by simp)
            clear X0 X1 X2 X3 XR X4 G1 G2 G3 G4 G5 G6 K3 K4 K5 HC0 HC1 HC2 HC3 HC4 HC5 HRW HZ0 HZ1 HZ2 HZ3 HZ4 HZ5
            go_wp2_with fail
            refine (zzAdd_any w6 t F k m r d0 d1 d2 d3 d4 d5 x0 x1 x2 x3 x4 x5 zr s f rows' l D E0 Q0 hn hF hR hm hr HALL.out HTOT.out Y0.out Y1.out Y2.out Y3.out YR.out Y4.out X5.out HSF.out HPOS.out).mono ?_
            rintro e w7 ⟨aE, cE, aR, cR, rfl, hcE, hcR, hg7⟩
            have G7 : Hid (w6.grownBy w7 none) := hg7
            have K7 : Hid (w.grownBy w7 none) := grown_trans K6.out hg7
            have hTL := TL_le s t
            have hRL := RL_le (frm D) l k
            have htt := HTOT.out
            obtain ⟨NS, hNS⟩ : ∃ NS, NS = (TL s t).length := ⟨_, rfl⟩
            obtain ⟨NQ, hNQ⟩ : ∃ NQ, NQ = (RL (frm D) l k).length := ⟨_, rfl⟩
            rw [← hNS, ← hNQ] at hcE
            rw [← hNQ] at hcR
            obtain ⟨E, hE⟩ : ∃ E, E = endE E0 s D l m t k r := ⟨_, rfl⟩
            obtain ⟨Q, hQ⟩ : ∃ Q, Q = endR Q0 D l k r := ⟨_, rfl⟩
            rw [← hE] at hcE
            rw [← hQ] at hcR
            have CE : Hid (Cells w7 aE ((m + NS + NQ) * 3) (eF E)) := hcE
            have CR : Hid (Cells w7 aR ((r + NQ) * 4) (rF Q)) := hcR
            have HE : Hid (E = endE E0 s D l m t k r) := hE
            have HQ : Hid (Q = endR Q0 D l k r) := hQ
            have HNS : Hid (NS = (TL s t).length) := hNS
            have HNQ : Hid (NQ = (RL (frm D) l k).length) := hNQ
            have hNS' : NS ≤ 16384 := by omega
            have hNQ' : NQ ≤ 65536 := by omega
            have C1 : Hid (Cells w7 x1 t (fun i => .int .i32 (s i))) := Y1.out.mono G7.out (by simp)
            have C3 : Hid (Cells w7 x3 k rows') := Y3.out.mono G7.out (by simp)
            have CRW : Hid (RowsIn w7 k rows' l D 0) := YR.out.mono G7.out (fun _ hb => nomatch hb)
            have C4 : Hid (Cells w7 x4 (m * 3) (eF E0)) := Y4.out.mono G7.out (by simp)
            have C5 : Hid (Cells w7 x5 (r * 4) (rF Q0)) := X5.out.mono G7.out (by simp)
            rw [← hNS, ← hNQ]
            clear Y0 Y1 Y2 Y3 YR Y4 X5 G7 K6 hcE hcR hg7 hE hQ hNS hNQ hTL hRL htt HPOS HTOT HSF
            have n25 := neq25
            have n45 := neq45
            have gd25 := guard25
            have gd45 := guard45
            go_wp2
            go_loopw [200] (fun i wr => ∃ j : Nat, j ≤ m ∧ i = .int .i64 j ∧ w7.grownBy wr none) (fun i _ => m - (intOf i).toNat)
            case atStart => exact ⟨0, Nat.zero_le _, rfl, grown_refl _ _⟩
            case round => as_aux_lemma =>
              obtain ⟨j, hj, rfl, hgr⟩ := hrel
              have GR : Hid (w7.grownBy wr none) := hgr
              by_cases hlt3 : j < m
              · obtain ⟨b, off, ex, _, hcl⟩ := (CE.out.mono hgr (by simp)).at (by omega)
                subst ex
                obtain ⟨b', off', ex', _, hcl'⟩ := (C4.out.mono hgr (by simp)).at (by omega)
                subst ex'
                obtain ⟨e0, e1, e2, hd⟩ : ∃ e0 e1 e2, E0 j = (e0, e1, e2) := ⟨_, _, _, rfl⟩
                have hd' : E j = (e0, e1, e2) := by rw [HE.out, endE_old hlt3, hd]
                have p0 : wr.cell? ⟨b, off + j * 3, none⟩ = some (.int .i32 e0) := by rw [hcl _ (by omega), eF0, hd']
                have p1 : wr.cell? ⟨b, off + j * 3 + 1, none⟩ = some (.int .i32 e1) := by rw [Nat.add_assoc, hcl _ (by omega), eF1, hd']
                have p2 : wr.cell? ⟨b, off + j * 3 + 2, none⟩ = some (.int .i32 e2) := by rw [Nat.add_assoc, hcl _ (by omega), eF2, hd']
                have q0 : wr.cell? ⟨b', off' + j * 3, none⟩ = some (.int .i32 e0) := by rw [hcl' _ (by omega), eF0, hd]
                have q1 : wr.cell? ⟨b', off' + j * 3 + 1, none⟩ = some (.int .i32 e1) := by rw [Nat.add_assoc, hcl' _ (by omega), eF1, hd]
                have q2 : wr.cell? ⟨b', off' + j * 3 + 2, none⟩ = some (.int .i32 e2) := by rw [Nat.add_assoc, hcl' _ (by omega), eF2, hd]
                clear hcl hcl' hgr hd hd'
                go_wp2
                go_quiet (fail)
                go_wp2
                go_roundw
                case rel => exact ⟨j + 1, by omega, by go_num, ⟨GR.out.os, GR.out.tape, GR.out.output, GR.out.size, GR.out.block⟩⟩
                case measure => simp [intOf]; omega
              · obtain rfl : m = j := by omega
                obtain ⟨w8, hw8⟩ : ∃ w8 : World, w8 = wr := ⟨_, rfl⟩
                subst hw8
                clear hgr
                go_wp2
                go_loopw [215] (fun i wr => ∃ j : Nat, j ≤ r ∧ i = .int .i64 j ∧ w7.grownBy wr none) (fun i _ => r - (intOf i).toNat)
                case atStart => exact ⟨0, Nat.zero_le _, rfl, GR.out⟩
                case round => as_aux_lemma =>
                  clear GR
                  obtain ⟨j, hj, rfl, hgr⟩ := hrel
                  have GR : Hid (w7.grownBy wr none) := hgr
                  by_cases hlt4 : j < r
                  · obtain ⟨b, off, ex, _, hcl⟩ := (CR.out.mono hgr (by simp)).at (by omega)
                    subst ex
                    obtain ⟨b', off', ex', _, hcl'⟩ := (C5.out.mono hgr (by simp)).at (by omega)
                    subst ex'
                    obtain ⟨e0, e1, e2, e3, hd⟩ : ∃ e0 e1 e2 e3, Q0 j = (e0, e1, e2, e3) := ⟨_, _, _, _, rfl⟩
                    have hd' : Q j = (e0, e1, e2, e3) := by rw [HQ.out, endR_old hlt4, hd]
                    have p0 : wr.cell? ⟨b, off + j * 4, none⟩ = some (.int .i64 e0) := by rw [hcl _ (by omega), rF0, hd']
                    have p1 : wr.cell? ⟨b, off + j * 4 + 1, none⟩ = some (.int .i64 e1) := by rw [Nat.add_assoc, hcl _ (by omega), rF1, hd']
                    have p2 : wr.cell? ⟨b, off + j * 4 + 2, none⟩ = some (.int .i64 e2) := by rw [Nat.add_assoc, hcl _ (by omega), rF2, hd']
                    have p3 : wr.cell? ⟨b, off + j * 4 + 3, none⟩ = some (.int .i32 e3) := by rw [Nat.add_assoc, hcl _ (by omega), rF3, hd']
                    have q0 : wr.cell? ⟨b', off' + j * 4, none⟩ = some (.int .i64 e0) := by rw [hcl' _ (by omega), rF0, hd]
                    have q1 : wr.cell? ⟨b', off' + j * 4 + 1, none⟩ = some (.int .i64 e1) := by rw [Nat.add_assoc, hcl' _ (by omega), rF1, hd]
                    have q2 : wr.cell? ⟨b', off' + j * 4 + 2, none⟩ = some (.int .i64 e2) := by rw [Nat.add_assoc, hcl' _ (by omega), rF2, hd]
                    have q3 : wr.cell? ⟨b', off' + j * 4 + 3, none⟩ = some (.int .i32 e3) := by rw [Nat.add_assoc, hcl' _ (by omega), rF3, hd]
                    clear hcl hcl' hgr hd hd'
                    go_wp2
                    go_quiet (fail)
                    go_wp2
                    go_roundw
                    case rel => exact ⟨j + 1, by omega, by go_num, ⟨GR.out.os, GR.out.tape, GR.out.output, GR.out.size, GR.out.block⟩⟩
                    case measure => simp [intOf]; omega
                  · obtain rfl : r = j := by omega
                    obtain ⟨w9, hw9⟩ : ∃ w9 : World, w9 = wr := ⟨_, rfl⟩
                    subst hw9
                    clear hgr
                    go_wp2
                    go_loopw [22, 23] (fun p i wr => ∃ x : Nat, (x + 1 ≤ t ∨ x = 0) ∧ i = .int .i64 ((x + 1 : Nat) : Int) ∧ p = .int .i64 ((m + (TL s (x + 1)).length : Nat) : Int) ∧ w7.grownBy wr none) (fun _ i _ => t - (intOf i).toNat)
                    case atStart => exact ⟨0, .inr rfl, rfl, rfl, GR.out⟩
                    case round => as_aux_lemma =>
                      clear GR
                      obtain ⟨x, hx, rfl, rfl, hgr⟩ := hrel
                      have GR : Hid (w7.grownBy wr none) := hgr
                      obtain ⟨L, hL⟩ : ∃ L, L = (TL s (x + 1)).length := ⟨_, rfl⟩
                      have HLL : Hid (L = (TL s (x + 1)).length) := hL
                      rw [← hL]
                      by_cases hlt5 : x + 1 < t
                      · obtain ⟨b, off, ex, _, hcl⟩ := (C1.out.mono hgr (by simp)).at (by omega)
                        subst ex
                        have hLx := TL_le s (x + 1)
                        rw [← hL] at hLx
                        obtain ⟨y, hy⟩ : ∃ y, y = s x := ⟨_, rfl⟩
                        obtain ⟨z, hz⟩ : ∃ z, z = s (x + 1) := ⟨_, rfl⟩
                        have k0 : wr.cell? ⟨b, off + x, none⟩ = some (.int .i32 y) := by rw [hy]; exact hcl x (by omega)
                        have k1 : wr.cell? ⟨b, off + (x + 1), none⟩ = some (.int .i32 z) := by rw [hz]; exact hcl (x + 1) (by omega)
                        have HSM : Hid (same s (x + 1) = decide (y = z)) := (by rw [hy, hz]; exact (by simp [same] : same s (x + 1) = decide (s x = s (x + 1))))
                        clear hy hz hcl hL
                        by_cases hyz : y = z
                        · have hb : (y == z) = true := by simpa using hyz
                          have HS1 : Hid (same s (x + 1) = true) := (by rw [HSM.out]; exact (decide_eq_true hyz))
                          have hLN : L < NS := by
                            have e := (TL_get HS1.out hlt5)
                            have := (List.getElem?_eq_some_iff.1 e).1
                            rw [HLL.out, HNS.out]; exact this
                          obtain ⟨b2, off2, ex2, _, hcl2⟩ := (CE.out.mono hgr (by simp)).at (by omega)
                          subst ex2
                          have hd : E (m + L) = ((x : Int), (x : Int) + 1, 0) := by rw [HE.out, HLL.out, endE_sess HS1.out hlt5]; congr 1; omega
                          have p0 : wr.cell? ⟨b2, off2 + (m + L) * 3, none⟩ = some (.int .i32 (x : Int)) := by rw [hcl2 _ (by omega), eF0, hd]
                          have p1 : wr.cell? ⟨b2, off2 + (m + L) * 3 + 1, none⟩ = some (.int .i32 ((x : Int) + 1)) := by rw [Nat.add_assoc, hcl2 _ (by omega), eF1, hd]
                          have p2 : wr.cell? ⟨b2, off2 + (m + L) * 3 + 2, none⟩ = some (.int .i32 0) := by rw [Nat.add_assoc, hcl2 _ (by omega), eF2, hd]
                          clear hcl2 hgr hd hyz
                          go_wp2
                          go_quiet (fail)
                          go_wp2
                          go_roundw
                          case rel =>
                            have e : (TL s (x + 1 + 1)).length = L + 1 := by rw [TL_yes HS1.out, List.length_append, ← HLL.out]; rfl
                            have RG : ∀ q, w7.grownBy (wr.drewN q) none := fun q => ⟨GR.out.os, GR.out.tape, GR.out.output, GR.out.size, GR.out.block⟩
                            exact ⟨x + 1, .inl (by omega), by go_num, by first | (rw [e]; done) | (rw [e]; go_num), RG _⟩
                          case measure => simp [intOf]; omega
                        · have hb : (y == z) = false := by simpa using hyz
                          have HS1 : Hid (same s (x + 1) = false) := (by rw [HSM.out]; exact (decide_eq_false hyz))
                          clear hgr hyz
                          go_wp2
                          go_quiet (fail)
                          go_wp2
                          go_roundw
                          case rel =>
                            have e : (TL s (x + 1 + 1)).length = L := by rw [TL_no HS1.out, ← HLL.out]
                            have RG : ∀ q, w7.grownBy (wr.drewN q) none := fun q => ⟨GR.out.os, GR.out.tape, GR.out.output, GR.out.size, GR.out.block⟩
                            exact ⟨x + 1, .inl (by omega), by go_num, by first | (rw [e]; done) | (rw [e]; go_num), RG _⟩
                          case measure => simp [intOf]; omega
                      · have hLN : L = NS := by
                          rw [hL, HNS.out]
                          by_cases ex : t = x + 1
                          · rw [ex]
                          · obtain rfl : x = 0 := by omega
                            obtain rfl : t = 0 := by omega
                            rw [TL_no (show same s 0 = false from by simp [same])]
                        subst hLN
                        clear hgr hL HLL
                        go_wp2
                        go_loopw [25, 266] (fun p i wr => ∃ x : Nat, x ≤ k ∧ i = .int .i64 x ∧ p = .int .i64 ((m + L + (RL (frm D) l x).length : Nat) : Int) ∧ w7.grownBy wr none) (fun _ i _ => k - (intOf i).toNat)
                        case atStart => exact ⟨0, Nat.zero_le _, rfl, by first | rfl | (simp [RL]) , GR.out⟩
                        case round => as_aux_lemma =>
                          clear GR
                          obtain ⟨y, hy, rfl, rfl, hgr⟩ := hrel
                          have GR : Hid (w7.grownBy wr none) := hgr
                          obtain ⟨q0, hq0⟩ : ∃ q0, q0 = (RL (frm D) l y).length := ⟨_, rfl⟩
                          have HQ0 : Hid (q0 = (RL (frm D) l y).length) := hq0
                          rw [← hq0]
                          by_cases hlt6 : y < k
                          · obtain ⟨b, off, ex, _, hcl⟩ := (C3.out.mono hgr (by simp)).at (by omega)
                            subst ex
                            obtain ⟨ay, cy, hry, _, hcy, _⟩ := CRW.out y hlt6
                            have c0' : wr.cell? ⟨b, off + y, none⟩ = some (.slice ay (l y) cy) := by rw [hcl y hlt6, hry]
                            have hly := HALL.out y hlt6
                            obtain ⟨ly, hly'⟩ : ∃ ly, ly = l y := ⟨_, rfl⟩
                            have HLY : Hid (ly = l y) := hly'
                            have CY : Hid (Cells w7 ay (ly * 4) (dF (D y))) := (by rw [hly']; exact hcy)
                            rw [← hly'] at c0' hly
                            obtain ⟨FY, hFY⟩ : ∃ FY, FY = firsts (frm D y) ly := ⟨_, rfl⟩
                            have HFY : Hid (FY = firsts (frm D y) ly) := hFY
                            obtain ⟨nF, hnF⟩ : ∃ nF, nF = FY.length := ⟨_, rfl⟩
                            have HNF : Hid (nF = FY.length) := hnF
                            have hqn : q0 + nF ≤ NQ := by rw [hnF, hFY, hq0, hly', ← RL_len, HNQ.out]; exact RL_mono _ _ hlt6
                            have hFl : nF ≤ ly := by rw [hnF, hFY]; exact firsts_le _ _
                            clear hcl hry hcy hly' hFY hnF hq0 hgr
                            go_wp2
                            go_loopw [25, 29] (fun kv pv wi => ∃ (c : Nat) (p : Int), c ≤ nF ∧ kv = .int .i64 ((m + L + (q0 + c) : Nat) : Int) ∧ pv = .int .i64 p ∧ -1 ≤ p ∧ p ≤ 4096 ∧ (∀ i, FY[c]? = some i → p < i) ∧ w7.grownBy wi none) (fun kv _ _ => m + L + (q0 + nF) - (intOf kv).toNat)
                            case atStart => exact ⟨0, -1, Nat.zero_le _, by first | rfl | go_num, rfl, by omega, by omega, fun i _ => by omega, GR.out⟩
                            case round => as_aux_lemma =>
                              clear GR c0'
                              obtain ⟨c, p, hc, rfl, rfl, hp1, hp2, hp3, hgr⟩ := hrel
                              have GR : Hid (w7.grownBy wr none) := hgr
                              by_cases hcF : c < nF
                              · obtain ⟨i, hi⟩ : ∃ i, FY[c]? = some i := ⟨_, List.getElem?_eq_getElem (by rw [← HNF.out]; exact hcF)⟩
                                have hpi := hp3 i hi
                                have him : i ∈ firsts (frm D y) ly := by rw [← HFY.out]; exact List.mem_of_getElem? hi
                                obtain ⟨hil, hino⟩ := firsts_mem him
                                have HNO : Hid (∀ j, j < i → (D y j).2.2.1 ≠ (D y i).2.2.1) := hino
                                have HFI : Hid (FY[c]? = some i) := hi
                                have HRL : Hid ((RL (frm D) l k)[q0 + c]? = some (y, i)) := (by rw [HQ0.out]; exact RL_at (frm D) l hlt6 (by rw [← HLY.out, ← HFY.out]; exact hi))
                                obtain ⟨d0, d1, d2, d3, hd⟩ : ∃ d0 d1 d2 d3, D y i = (d0, d1, d2, d3) := ⟨_, _, _, _, rfl⟩
                                have HDD : Hid (D y i = (d0, d1, d2, d3)) := hd
                                have hE1 : E (m + L + (q0 + c)) = (d2, (y : Int), ((r + (q0 + c) : Nat) : Int)) := by rw [HE.out, HNS.out, endE_read HRL.out, hd]
                                have hQ1 : Q (r + (q0 + c)) = (1, d0, d1, 0) := by rw [HQ.out, endR_read HRL.out, hd]
                                obtain ⟨b2, off2, ex2, _, hcl2⟩ := (CE.out.mono hgr (by simp)).at (by omega)
                                subst ex2
                                obtain ⟨b3, off3, ex3, _, hcl3⟩ := (CR.out.mono hgr (by simp)).at (by omega)
                                subst ex3
                                obtain ⟨b4, off4, ex4, _, hcl4⟩ := (CY.out.mono hgr (by simp)).at (by omega)
                                subst ex4
                                have p0 : wr.cell? ⟨b2, off2 + (m + L + (q0 + c)) * 3, none⟩ = some (.int .i32 d2) := by rw [hcl2 _ (by omega), eF0, hE1]
                                have p1 : wr.cell? ⟨b2, off2 + (m + L + (q0 + c)) * 3 + 1, none⟩ = some (.int .i32 (y : Int)) := by rw [Nat.add_assoc, hcl2 _ (by omega), eF1, hE1]
                                have p2 : wr.cell? ⟨b2, off2 + (m + L + (q0 + c)) * 3 + 2, none⟩ = some (.int .i32 ((r + (q0 + c) : Nat) : Int)) := by rw [Nat.add_assoc, hcl2 _ (by omega), eF2, hE1]
                                have r0 : wr.cell? ⟨b3, off3 + (r + (q0 + c)) * 4, none⟩ = some (.int .i64 1) := by rw [hcl3 _ (by omega), rF0, hQ1]
                                have r1 : wr.cell? ⟨b3, off3 + (r + (q0 + c)) * 4 + 1, none⟩ = some (.int .i64 d0) := by rw [Nat.add_assoc, hcl3 _ (by omega), rF1, hQ1]
                                have r2 : wr.cell? ⟨b3, off3 + (r + (q0 + c)) * 4 + 2, none⟩ = some (.int .i64 d1) := by rw [Nat.add_assoc, hcl3 _ (by omega), rF2, hQ1]
                                have r3 : wr.cell? ⟨b3, off3 + (r + (q0 + c)) * 4 + 3, none⟩ = some (.int .i32 0) := by rw [Nat.add_assoc, hcl3 _ (by omega), rF3, hQ1]
                                have s0 : wr.cell? ⟨b4, off4 + i * 4, none⟩ = some (.int .i64 d0) := by rw [hcl4 _ (by omega), dF0, hd]
                                have s1 : wr.cell? ⟨b4, off4 + i * 4 + 1, none⟩ = some (.int .i64 d1) := by rw [Nat.add_assoc, hcl4 _ (by omega), dF1, hd]
                                clear hcl2 hcl3 hcl4 hE1 hQ1 hd hi hp3 him hino hgr
                                go_wp2_with (go_at_call 17; refine (firstRead_at (some ⟨b4, off4, none⟩) ly cy i d2 (D y) wr hly (CY.out.mono GR.out (by simp)) hil (by rw [HDD.out]) (fun j hj => by have := HNO.out j hj; rw [HDD.out] at this; exact this)).mono ?_; rintro e w' ⟨rfl, rfl⟩)
                                go_quiet (fail)
                                go_wp2
                                go_roundw
                                case rel =>
                                  have RG : ∀ q, w7.grownBy (wr.drewN q) none := fun q => ⟨GR.out.os, GR.out.tape, GR.out.output, GR.out.size, GR.out.block⟩
                                  have RS : ∀ i' : Nat, FY[c + 1]? = some i' → (i : Int) < (i' : Int) := by
                                    intro i' hi'
                                    have hs := firsts_sorted (frm D y) ly
                                    rw [← HFY.out] at hs
                                    obtain ⟨h1, e1⟩ := List.getElem?_eq_some_iff.1 HFI.out
                                    obtain ⟨h2, e2⟩ := List.getElem?_eq_some_iff.1 hi'
                                    have := List.pairwise_iff_getElem.1 hs c (c + 1) h1 h2 (by omega)
                                    rw [e1, e2] at this
                                    omega
                                  first
                                    | exact ⟨c + 1, i, by omega, by first | go_num | (congr 1; push_cast; omega), rfl, by omega, by omega, RS, RG _⟩
                                    | ((repeat apply Exists.intro); exact ⟨⟨c + 1, i, by omega, by go_num, rfl, by omega, by omega, RS, RG _⟩, rfl⟩)
                                case measure => simp [intOf]; omega
                              · obtain rfl : nF = c := by omega
                                clear hp3
                                have hend : q0 + nF = NQ ∨ ∃ yy : Nat, y < yy ∧ q0 + nF < NQ ∧ (E (m + L + (q0 + nF))).2.1 = (yy : Int) := by
                                  by_cases hq : q0 + nF = NQ
                                  · exact .inl hq
                                  · right
                                    have hlen : q0 + nF = (RL (frm D) l (y + 1)).length := by rw [RL_len, HQ0.out, HNF.out, HFY.out, HLY.out]
                                    obtain ⟨xx, hxx⟩ : ∃ xx, (RL (frm D) l k)[q0 + nF]? = some xx := ⟨_, List.getElem?_eq_getElem (by rw [← HNQ.out]; omega)⟩
                                    obtain ⟨yy, ii⟩ := xx
                                    have hgt := RL_next (frm D) l hlt6 (by rw [← hlen]; exact hxx)
                                    exact ⟨yy, hgt, by omega, by rw [HE.out, HNS.out, endE_read hxx]⟩
                                rcases hend with hq | ⟨yy, hyy, hqq, hEE⟩
                                · clear hgr
                                  go_wp2
                                  go_loopw [342] (fun i wi => ∃ v : Nat, v ≤ ly ∧ i = .int .i64 v ∧ w7.grownBy wi none) (fun i _ => ly - (intOf i).toNat)
                                  case atStart => exact ⟨0, Nat.zero_le _, rfl, GR.out⟩
                                  case round => as_aux_lemma =>
                                    clear GR
                                    obtain ⟨v, hv, rfl, hgr⟩ := hrel
                                    have GR : Hid (w7.grownBy wr none) := hgr
                                    by_cases hlt8 : v < ly
                                    · clear hgr
                                      go_wp2
                                      go_loopw [34, 35] (fun fv jv wi => ∃ c : Nat, c ≤ nF ∧ fv = .bool false ∧ jv = .int .i64 ((m + L + (q0 + c) : Nat) : Int) ∧ (∀ c', c' < c → ∀ i, FY[c']? = some i → frm D y i ≠ frm D y v) ∧ w7.grownBy wi none) (fun _ jv _ => m + L + (q0 + nF) - (intOf jv).toNat)
                                      case atStart => exact ⟨0, Nat.zero_le _, rfl, by first | rfl | go_num, fun c' h => by omega, GR.out⟩
                                      case round => as_aux_lemma =>
                                        clear GR
                                        obtain ⟨c, hc, rfl, rfl, hno, hgr⟩ := hrel
                                        have GR : Hid (w7.grownBy wr none) := hgr
                                        have HNOC : Hid (∀ c', c' < c → ∀ i, FY[c']? = some i → frm D y i ≠ frm D y v) := hno
                                        have RG : Hid (∀ q, w7.grownBy (wr.drewN q) none) := fun q => ⟨hgr.os, hgr.tape, hgr.output, hgr.size, hgr.block⟩
                                        by_cases hcF : c < nF
                                        · obtain ⟨i, hi⟩ : ∃ i, FY[c]? = some i := ⟨_, List.getElem?_eq_getElem (by rw [← HNF.out]; exact hcF)⟩
                                          have HFI : Hid (FY[c]? = some i) := hi
                                          have HRL : Hid ((RL (frm D) l k)[q0 + c]? = some (y, i)) := (by rw [HQ0.out]; exact RL_at (frm D) l hlt6 (by rw [← HLY.out, ← HFY.out]; exact hi))
                                          obtain ⟨d2, hd2⟩ : ∃ d2, d2 = frm D y i := ⟨_, rfl⟩
                                          obtain ⟨z, hz⟩ : ∃ z, z = frm D y v := ⟨_, rfl⟩
                                          have HD2 : Hid (d2 = frm D y i) := hd2
                                          have HZ : Hid (z = frm D y v) := hz
                                          have hE1 : (E (m + L + (q0 + c))).1 = d2 := by rw [HE.out, HNS.out, endE_read HRL.out, hd2]
                                          obtain ⟨b2, off2, ex2, _, hcl2⟩ := (CE.out.mono hgr (by simp)).at (by omega)
                                          cases ex2
                                          obtain ⟨b4, off4, ex4, _, hcl4⟩ := (CY.out.mono hgr (by simp)).at (by omega)
                                          cases ex4
                                          have p0 : wr.cell? ⟨b2, off2 + (m + L + (q0 + c)) * 3, none⟩ = some (.int .i32 d2) := by rw [hcl2 _ (by omega), eF0, hE1]
                                          have s2 : wr.cell? ⟨b4, off4 + v * 4 + 2, none⟩ = some (.int .i32 z) := by rw [Nat.add_assoc, hcl4 _ (by omega), dF2, hz]
                                          clear hcl2 hcl4 hE1 hd2 hz hi hno hgr
                                          by_cases hzz : d2 = z
                                          · have hb : (d2 == z) = true := by simpa using hzz
                                            clear hzz
                                            go_wp2
                                            go_quiet (fail)
                                            go_wp2
                                            go_roundw
                                            case rel => exact ⟨v + 1, by omega, by go_num, RG.out _⟩
                                            case measure => simp [intOf]; omega
                                          · have hb : (d2 == z) = false := by simpa using hzz
                                            have HZZ : Hid (¬ d2 = z) := hzz
                                            clear hzz
                                            go_wp2
                                            go_quiet (fail)
                                            go_wp2
                                            go_roundw
                                            case rel =>
                                              have RN : ∀ c', c' < c + 1 → ∀ i, FY[c']? = some i → frm D y i ≠ frm D y v := by
                                                intro c' hc' i' hi'
                                                by_cases e : c' = c
                                                · subst e
                                                  rw [HFI.out] at hi'
                                                  obtain rfl := Option.some.inj hi'
                                                  rw [← HD2.out, ← HZ.out]
                                                  exact HZZ.out
                                                · exact HNOC.out c' (by omega) i' hi'
                                              first
                                                | exact ⟨c + 1, by omega, rfl, by first | go_num | (congr 1; push_cast; omega), RN, RG.out _⟩
                                                | ((repeat apply Exists.intro); exact ⟨⟨c + 1, by omega, rfl, by go_num, RN, RG.out _⟩, rfl⟩)
                                            case measure => simp [intOf]; omega
                                        · exfalso
                                          obtain ⟨j, hj, _, ej⟩ := firsts_has (frm D y) ly v hlt8
                                          rw [← HFY.out] at hj
                                          obtain ⟨c', hc', ec'⟩ := List.getElem_of_mem hj
                                          exact hno c' (by have := HNF.out; omega) j (by rw [List.getElem?_eq_getElem hc', ec']) ej
                                    · obtain rfl : ly = v := by omega
                                      clear hgr
                                      go_wp2
                                      go_roundw
                                      case rel =>
                                        have e : (RL (frm D) l (y + 1)).length = q0 + nF := by rw [RL_len, HQ0.out, HNF.out, HFY.out, HLY.out]
                                        first
                                          | exact ⟨y + 1, by omega, by go_num, by first | (rw [e]; done) | (rw [e]; go_num), GR.out⟩
                                          | ((repeat apply Exists.intro); exact ⟨⟨y + 1, by omega, by go_num, by first | (rw [e]; done) | (rw [e]; go_num), GR.out⟩, rfl⟩)
                                      case measure => simp [intOf]; omega
                                · obtain ⟨b2, off2, ex2, _, hcl2⟩ := (CE.out.mono hgr (by simp)).at (by omega)
                                  cases ex2
                                  have p1 : wr.cell? ⟨b2, off2 + (m + L + (q0 + nF)) * 3 + 1, none⟩ = some (.int .i32 (yy : Int)) := by rw [Nat.add_assoc, hcl2 _ (by omega), eF1, hEE]
                                  have hyb : ((yy : Int) == (y : Int)) = false := by simp; omega
                                  clear hcl2 hEE hgr
                                  go_wp2
                                  go_loopw [342] (fun i wi => ∃ v : Nat, v ≤ ly ∧ i = .int .i64 v ∧ w7.grownBy wi none) (fun i _ => ly - (intOf i).toNat)
                                  case atStart => exact ⟨0, Nat.zero_le _, rfl, GR.out⟩
                                  case round => as_aux_lemma =>
                                    clear GR
                                    obtain ⟨v, hv, rfl, hgr⟩ := hrel
                                    have GR : Hid (w7.grownBy wr none) := hgr
                                    by_cases hlt8 : v < ly
                                    · clear hgr
                                      go_wp2
                                      go_loopw [34, 35] (fun fv jv wi => ∃ c : Nat, c ≤ nF ∧ fv = .bool false ∧ jv = .int .i64 ((m + L + (q0 + c) : Nat) : Int) ∧ (∀ c', c' < c → ∀ i, FY[c']? = some i → frm D y i ≠ frm D y v) ∧ w7.grownBy wi none) (fun _ jv _ => m + L + (q0 + nF) - (intOf jv).toNat)
                                      case atStart => exact ⟨0, Nat.zero_le _, rfl, by first | rfl | go_num, fun c' h => by omega, GR.out⟩
                                      case round => as_aux_lemma =>
                                        clear GR
                                        obtain ⟨c, hc, rfl, rfl, hno, hgr⟩ := hrel
                                        have GR : Hid (w7.grownBy wr none) := hgr
                                        have HNOC : Hid (∀ c', c' < c → ∀ i, FY[c']? = some i → frm D y i ≠ frm D y v) := hno
                                        have RG : Hid (∀ q, w7.grownBy (wr.drewN q) none) := fun q => ⟨hgr.os, hgr.tape, hgr.output, hgr.size, hgr.block⟩
                                        by_cases hcF : c < nF
                                        · obtain ⟨i, hi⟩ : ∃ i, FY[c]? = some i := ⟨_, List.getElem?_eq_getElem (by rw [← HNF.out]; exact hcF)⟩
                                          have HFI : Hid (FY[c]? = some i) := hi
                                          have HRL : Hid ((RL (frm D) l k)[q0 + c]? = some (y, i)) := (by rw [HQ0.out]; exact RL_at (frm D) l hlt6 (by rw [← HLY.out, ← HFY.out]; exact hi))
                                          obtain ⟨d2, hd2⟩ : ∃ d2, d2 = frm D y i := ⟨_, rfl⟩
                                          obtain ⟨z, hz⟩ : ∃ z, z = frm D y v := ⟨_, rfl⟩
                                          have HD2 : Hid (d2 = frm D y i) := hd2
                                          have HZ : Hid (z = frm D y v) := hz
                                          have hE1 : (E (m + L + (q0 + c))).1 = d2 := by rw [HE.out, HNS.out, endE_read HRL.out, hd2]
                                          obtain ⟨b2, off2, ex2, _, hcl2⟩ := (CE.out.mono hgr (by simp)).at (by omega)
                                          cases ex2
                                          obtain ⟨b4, off4, ex4, _, hcl4⟩ := (CY.out.mono hgr (by simp)).at (by omega)
                                          cases ex4
                                          have p0 : wr.cell? ⟨b2, off2 + (m + L + (q0 + c)) * 3, none⟩ = some (.int .i32 d2) := by rw [hcl2 _ (by omega), eF0, hE1]
                                          have s2 : wr.cell? ⟨b4, off4 + v * 4 + 2, none⟩ = some (.int .i32 z) := by rw [Nat.add_assoc, hcl4 _ (by omega), dF2, hz]
                                          clear hcl2 hcl4 hE1 hd2 hz hi hno hgr
                                          by_cases hzz : d2 = z
                                          · have hb : (d2 == z) = true := by simpa using hzz
                                            clear hzz
                                            go_wp2
                                            go_quiet (fail)
                                            go_wp2
                                            go_roundw
                                            case rel => exact ⟨v + 1, by omega, by go_num, RG.out _⟩
                                            case measure => simp [intOf]; omega
                                          · have hb : (d2 == z) = false := by simpa using hzz
                                            have HZZ : Hid (¬ d2 = z) := hzz
                                            clear hzz
                                            go_wp2
                                            go_quiet (fail)
                                            go_wp2
                                            go_roundw
                                            case rel =>
                                              have RN : ∀ c', c' < c + 1 → ∀ i, FY[c']? = some i → frm D y i ≠ frm D y v := by
                                                intro c' hc' i' hi'
                                                by_cases e : c' = c
                                                · subst e
                                                  rw [HFI.out] at hi'
                                                  obtain rfl := Option.some.inj hi'
                                                  rw [← HD2.out, ← HZ.out]
                                                  exact HZZ.out
                                                · exact HNOC.out c' (by omega) i' hi'
                                              first
                                                | exact ⟨c + 1, by omega, rfl, by first | go_num | (congr 1; push_cast; omega), RN, RG.out _⟩
                                                | ((repeat apply Exists.intro); exact ⟨⟨c + 1, by omega, rfl, by go_num, RN, RG.out _⟩, rfl⟩)
                                            case measure => simp [intOf]; omega
                                        · exfalso
                                          obtain ⟨j, hj, _, ej⟩ := firsts_has (frm D y) ly v hlt8
                                          rw [← HFY.out] at hj
                                          obtain ⟨c', hc', ec'⟩ := List.getElem_of_mem hj
                                          exact hno c' (by have := HNF.out; omega) j (by rw [List.getElem?_eq_getElem hc', ec']) ej
                                    · obtain rfl : ly = v := by omega
                                      clear hgr
                                      go_wp2
                                      go_roundw
                                      case rel =>
                                        have e : (RL (frm D) l (y + 1)).length = q0 + nF := by rw [RL_len, HQ0.out, HNF.out, HFY.out, HLY.out]
                                        first
                                          | exact ⟨y + 1, by omega, by go_num, by first | (rw [e]; done) | (rw [e]; go_num), GR.out⟩
                                          | ((repeat apply Exists.intro); exact ⟨⟨y + 1, by omega, by go_num, by first | (rw [e]; done) | (rw [e]; go_num), GR.out⟩, rfl⟩)
                                      case measure => simp [intOf]; omega
                          · obtain rfl : k = y := by omega
                            have hqN : q0 = NQ := by rw [hq0, HNQ.out]
                            subst hqN
                            clear hq0 hgr
                            go_wp2
                            go_ret
                            refine ⟨?_, grown_below (grown_trans K7.out GR.out)⟩
                            first | rfl | (simp; done) | (simp; omega)
      · go_wp2
        go_ret
        exact ⟨rfl, Below.refl _ _⟩
end Go.Proofs.Qxb6605286a
