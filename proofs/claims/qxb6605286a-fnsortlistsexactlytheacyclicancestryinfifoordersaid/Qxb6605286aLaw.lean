/-
  THE WALK OF FnSortListsExactlyTheAcyclicAncestryInFifoOrder.
-/
import Derived.Test.Qxb6605286aLawB
import Derived.Deep.QuietTactic
import Derived.BigQuiet
namespace Go.Proofs.Qxb6605286a
open Go.RowKit

/-- Edge j lies between transactions. -/
def Valid (n : Nat) (z : Nat → Int) (j : Nat) : Prop := 0 ≤ z (j * 3) ∧ z (j * 3) < n ∧ 0 ≤ z (j * 3 + 1) ∧ z (j * 3 + 1) < n

set_option maxHeartbeats 20000000 in
set_option maxRecDepth 20000 in
theorem law_any (a1 a2 : Option Addr) (n c1 m c2 : Nat) (zr z : Nat → Int) (w : World) (hn : n ≤ 16384) (hm : m ≤ 65536) (hnil1 : a1 = none → n = 0 ∧ c1 = 0) (hnil2 : a2 = none → m = 0 ∧ c2 = 0) (hC1 : Cells w a1 (n * 2) (fun i => .int .i64 (zr i)))
    (hC2 : Cells w a2 (m * 3) (fun i => .int .i32 (z i))) (hzb : ∀ i, -2147483648 ≤ z i ∧ z i ≤ 2147483647) :
    Calls Try.prog 3 #[.slice a1 n c1, .slice a2 m c2] w fun e w' => e = .returned (.bool true) ∧ Below w.heap.size w w' := by
  obtain ⟨i3, hi3, hy0, hy1, hy2⟩ := info_parts Try.info3
  obtain ⟨i4, hi4, hx0, hx1, hx2⟩ := info_parts Try.info4
  have HC1 : Hid (Cells w a1 (n * 2) (fun i => .int .i64 (zr i))) := hC1
  have HC2 : Hid (Cells w a2 (m * 3) (fun i => .int .i32 (z i))) := hC2
  have HN1 : Hid (a1 = none → n = 0 ∧ c1 = 0) := hnil1
  have HN2 : Hid (a2 = none → m = 0 ∧ c2 = 0) := hnil2
  have HZB : Hid (∀ i, -2147483648 ≤ z i ∧ z i ≤ 2147483647) := hzb
  clear hC1 hC2 hnil1 hnil2 hzb
  go_enter Try.func3, Try.ntmps3
  go_wp2_with (go_at_call 6; refine (zz6_yes _ _ _ _ _ _ _ (by omega)).mono ?_; rintro e w' ⟨rfl, rfl⟩)
  go_loop [54] (fun i => ∃ k : Nat, k ≤ m ∧ i = .int .i64 k ∧ ∀ j, j < k → Valid n z j) (fun i => m - (intOf i).toNat)
  case atStart => exact ⟨0, Nat.zero_le _, rfl, fun j hj => by omega⟩
  case round =>
    obtain ⟨k, hk, rfl, hval⟩ := hrel
    have HV : Hid (∀ j, j < k → Valid n z j) := hval
    clear hval
    by_cases hlt : k < m
    · obtain ⟨b, off, ex, hb, hcl⟩ := HC2.out.at (by omega)
      subst ex
      have c0 : w.cell? ⟨b, off + k * 3, none⟩ = some (.int .i32 (z (k * 3))) := hcl (k * 3) (by omega)
      have c1' : w.cell? ⟨b, off + k * 3 + 1, none⟩ = some (.int .i32 (z (k * 3 + 1))) := by rw [Nat.add_assoc]; exact hcl (k * 3 + 1) (by omega)
      obtain ⟨x0, hx0'⟩ : ∃ x, x = z (k * 3) := ⟨_, rfl⟩
      obtain ⟨x1, hx1'⟩ : ∃ x, x = z (k * 3 + 1) := ⟨_, rfl⟩
      rw [← hx0'] at c0
      rw [← hx1'] at c1'
      have b0 := HZB.out (k * 3)
      have b1 := HZB.out (k * 3 + 1)
      rw [← hx0'] at b0
      rw [← hx1'] at b1
      obtain ⟨b00, b01⟩ := b0
      obtain ⟨b10, b11⟩ := b1
      have HX0 : Hid (x0 = z (k * 3)) := hx0'
      have HX1 : Hid (x1 = z (k * 3 + 1)) := hx1'
      clear hx0' hx1' hcl
      by_cases t0 : x0 < 0
      · go_wp2
        go_ret
        exact ⟨rfl, Below.refl _ _⟩
      · by_cases t1 : (n : Int) ≤ x0
        · go_wp2
          go_ret
          exact ⟨rfl, Below.refl _ _⟩
        · by_cases t2 : x1 < 0
          · go_wp2
            go_ret
            exact ⟨rfl, Below.refl _ _⟩
          · by_cases t3 : (n : Int) ≤ x1
            · go_wp2
              go_ret
              exact ⟨rfl, Below.refl _ _⟩
            · go_wp2
              go_round
              case rel =>
                refine ⟨k + 1, by omega, by go_num, fun j hj => ?_⟩
                by_cases e : j = k
                · rw [e]; unfold Valid; rw [← HX0.out, ← HX1.out]; omega
                · exact HV.out j (by omega)
              case measure => simp [intOf]; omega
    · obtain rfl : m = k := by omega
      go_wp2_with fail
      refine (copyRefs_any a1 n c1 _ w hn (fun i => rfl) HN1.out HC1.out).mono ?_
      rintro e w1 ⟨b1, d1, rfl, hown1, hgr1⟩
      have HB1 : Hid (Cells w1 b1 (n * 2) (fun i => .int .i64 (zr i))) := cells_of_own hown1
      have HG1 : Hid (w.grownBy w1 none) := hgr1
      clear hown1 hgr1
      go_wp2_with fail
      refine (copyEdges_any a2 m c2 _ w1 hm (fun i => rfl) HN2.out (HC2.out.mono HG1.out (by simp))).mono ?_
      rintro e w2 ⟨b2, d2, rfl, hown2, hgr2⟩
      have HO2 : Hid (w2.ownsRow w1.heap.size 25 3 (.slice b2 m d2) m (seg (fun i => .int .i32 (z i)) 0 (m * 3))) := hown2
      have HG2 : Hid (w.grownBy w2 none) := grown_trans HG1.out hgr2
      have HB2 : Hid (Cells w2 b1 (n * 2) (fun i => .int .i64 (zr i))) := HB1.out.mono hgr2 (by simp)
      clear hown2 hgr2 HB1
      go_wp2_with fail
      refine (zzSort_any b1 b2 n d1 m d2 zr z w2 hn hm HB2.out (cells_of_own HO2.out) (fun j hj => HV.out j hj)).mono ?_
      rintro e w3 ⟨ao, oc, L, C, rfl, hown3, hfin, hgr3⟩
      have HENV : Hid (Env w w3 b2 m z ao oc L w3.heap.size) := by
        refine ⟨(cells_of_own HO2.out).mono hgr3 (by simp), own_base hown3 HG2.out.size, fun x hx hk => ?_, fun g hg => (hown3.lt g hg).2, grown_trans HG2.out hgr3, (grown_trans HG2.out hgr3).size⟩
        obtain ⟨b, off, e, hb, _⟩ := (cells_of_own HO2.out).at (by omega)
        rw [e] at hx
        obtain rfl := Option.some.inj hx
        exact Nat.lt_of_lt_of_le hb hgr3.size
      have HFIN : Hid (Fin n m (fun j => (z (j * 3)).toNat) (fun j => (z (j * 3 + 1)).toNat) L C) := hfin
      have hLn : L.length ≤ n := nodup_bound n L hfin.f2 hfin.f3
      obtain ⟨bo, hbo⟩ : ∃ bo, bo = decide (L.length = n) := ⟨_, rfl⟩
      rw [← hbo]
      have hbe : ((L.length : Int) == (n : Int)) = bo := by rw [hbo, beq_nat]
      clear hown3 hfin hgr3 hbo HO2 HG2 HB2 HG1 HC1 HC2 HN1 HN2
      have hnl : decide ((n : Int) < (L.length : Int)) = false := decide_eq_false (by omega)
      go_wp2_with (at_make; refine wpList_make_full _ rfl _ _ 31 rfl w3.heap.size 3 i3 (.int .i64 0) 1 Try.underlying31 hi3 hy0 hy1 _ _ _ _ n rfl rfl rfl rfl (by rw [hy2]; omega) (by unfold maxLen; omega) (Nat.le_refl _) ?_)
      intro wl hown4 hgr4
      have HE : Hid (Env w wl b2 m z ao oc L w3.heap.size) := HENV.out.kept hgr4 (by simp)
      have HP : Hid (OwnT wl w3.heap.size 3 n (fun _ => .int .i64 0)) := ownT_made hown4
      obtain ⟨gp, hgp⟩ : ∃ g, g = w3.heap.size := ⟨_, rfl⟩
      rw [← hgp] at HE HP ⊢
      clear hown4 hgr4 HENV hgp
      go_wp2
      go_loopw [116] (fun i wr => ∃ (q : Nat) (F : Nat → Value), q ≤ n ∧ i = .int .i64 q ∧ (∀ u, u < q → F u = .int .i64 (-1)) ∧ OwnT wr gp 3 n F ∧ wl.grownBy wr (some gp)) (fun i _ => n - (intOf i).toNat)
      case atStart => exact ⟨0, _, Nat.zero_le _, rfl, fun u hu => by omega, HP.out, grown_refl _ _⟩
      case round =>
        clear HP
        obtain ⟨q, F, hq, rfl, hF, hT, hg⟩ := hrel
        by_cases hlt2 : q < n
        · have d1 := hT.cell hlt2
          have d2 := hT.free q
          have HT : Hid (OwnT wr gp 3 n F) := hT
          have HFF : Hid (∀ u, u < q → F u = .int .i64 (-1)) := hF
          have HG : Hid (wl.grownBy wr (some gp)) := hg
          obtain ⟨y, hy⟩ : ∃ y, y = F q := ⟨_, rfl⟩
          rw [← hy] at d1
          clear hT hF hg hy
          go_wp2
          go_roundw
          case rel =>
            obtain ⟨s1, s2⟩ := HT.out.set q (.int .i64 (-1))
            refine ⟨q + 1, _, by omega, by go_num, fun u hu => ?_, s1, grown_trans HG.out s2⟩
            by_cases e : u = q
            · rw [if_pos e]
            · rw [if_neg e]; exact HFF.out u (by omega)
          case measure => simp [intOf]; omega
        · obtain rfl : n = q := by omega
          have HP : Hid (OwnT wr gp 3 n (fun u => .int .i64 (posV (L.take 0) u))) := hT.congr fun u hu => by rw [hF u hu]; rfl
          have HE2 : Hid (Env w wr b2 m z ao oc L gp) := HE.out.kept hg (fun g e => by injection e with e; omega)
          obtain ⟨wl2, hwl⟩ : ∃ x : World, x = wr := ⟨_, rfl⟩
          subst hwl
          clear hT hF hg HE hlt2
          go_wp2
          go_loopw [125] (fun i wr => ∃ q : Nat, q ≤ L.length ∧ i = .int .i64 q ∧ OwnT wr gp 3 n (fun u => .int .i64 (posV (L.take q) u)) ∧ wl2.grownBy wr (some gp)) (fun i _ => L.length - (intOf i).toNat)
          case atStart => exact ⟨0, Nat.zero_le _, rfl, HP.out, grown_refl _ _⟩
          case round =>
            clear HP
            obtain ⟨q, hq, rfl, hT, hg⟩ := hrel
            have hEr : Env w wr b2 m z ao oc L gp := HE2.out.kept hg (fun g e => by injection e with e; omega)
            by_cases hlt2 : q < L.length
            · obtain ⟨g, hao, hpl⟩ := hEr.place hlt2
              have d0 := hpl q hlt2
              have hxn : L[q] < n := HFIN.out.f3 _ (List.getElem_mem hlt2)
              have d1 : wr.cell? ⟨gp, L[q], none⟩ = some (.int .i64 (-1)) := by rw [hT.cell hxn, posV_new HFIN.out.f2 hlt2]
              have d2 := hT.free L[q]
              have HT : Hid (OwnT wr gp 3 n (fun u => .int .i64 (posV (L.take q) u))) := hT
              have HG : Hid (wl2.grownBy wr (some gp)) := hg
              obtain ⟨x, hx⟩ : ∃ x, x = L[q] := ⟨_, rfl⟩
              rw [← hx] at d0 d1 d2 hxn
              have HX : Hid (x = L[q]) := hx
              subst hao
              clear hT hg hx hEr hpl
              go_wp2
              go_roundw
              case rel =>
                obtain ⟨s1, s2⟩ := HT.out.set x (.int .i64 (q : Int))
                refine ⟨q + 1, by omega, by go_num, s1.congr fun u hu => ?_, grown_trans HG.out s2⟩
                rw [posV_take HFIN.out.f2 hlt2, ← HX.out]
                split <;> rfl
              case measure => simp [intOf]; omega
            · obtain rfl : L.length = q := by omega
              have HP : Hid (OwnT wr gp 3 n (fun u => .int .i64 (posV L u))) := by have := hT; rw [List.take_of_length_le (Nat.le_refl _)] at this; exact this
              have HE3 : Hid (Env w wr b2 m z ao oc L gp) := hEr
              have hgpw := hT.lt
              obtain ⟨wl3, hwl⟩ : ∃ x : World, x = wr := ⟨_, rfl⟩
              subst hwl
              clear hT hg HE2 hlt2 hEr
              go_wp2_with (at_make; refine wpList_make_full _ rfl _ _ 31 rfl wl3.heap.size 3 i3 (.int .i64 0) 1 Try.underlying31 hi3 hy0 hy1 _ _ _ _ n rfl rfl rfl rfl (by rw [hy2]; omega) (by unfold maxLen; omega) (Nat.le_refl _) ?_)
              intro wl4 hown4 hgr4
              have HE4 : Hid (Env w wl4 b2 m z ao oc L gp) := HE3.out.kept hgr4 (by simp)
              have HP4 : Hid (OwnT wl4 gp 3 n (fun u => .int .i64 (posV L u))) := HP.out.kept hgr4 (by simp)
              have HI4 : Hid (OwnT wl4 wl3.heap.size 3 n (fun _ => .int .i64 0)) := ownT_made hown4
              obtain ⟨gi, hgi⟩ : ∃ g, g = wl3.heap.size := ⟨_, rfl⟩
              rw [← hgi] at HI4 hgpw ⊢
              clear hown4 hgr4 HE3 HP hgi
              obtain ⟨t, ht⟩ : ∃ t : Nat → Nat, t = fun j => (z (j * 3 + 1)).toNat := ⟨_, rfl⟩
              obtain ⟨f, hf⟩ : ∃ f : Nat → Nat, f = fun j => (z (j * 3)).toNat := ⟨_, rfl⟩
              rw [← ht, ← hf] at HFIN
              have HTT : Hid (t = fun j => (z (j * 3 + 1)).toNat) := ht
              have HFF : Hid (f = fun j => (z (j * 3)).toNat) := hf
              clear ht hf
              go_wp2
              go_loopw [156] (fun i wr => ∃ q : Nat, q ≤ m ∧ i = .int .i64 q ∧ OwnT wr gi 3 n (fun v => .int .i64 (cntB (fun j => decide (t j = v)) q : Int)) ∧ wl4.grownBy wr (some gi)) (fun i _ => m - (intOf i).toNat)
              case atStart => exact ⟨0, Nat.zero_le _, rfl, HI4.out, grown_refl _ _⟩
              case round =>
                clear HI4
                obtain ⟨q, hq, rfl, hT, hg⟩ := hrel
                have hEr : Env w wr b2 m z ao oc L gp := HE4.out.kept hg (fun g e => by injection e with e; omega)
                by_cases hlt2 : q < m
                · obtain ⟨b, off, hbe2, d0, d1⟩ := hEr.edge hlt2
                  obtain ⟨_, _, v1, v2⟩ := HV.out q hlt2
                  have et : t q = (z (q * 3 + 1)).toNat := by rw [HTT.out]
                  have ev : z (q * 3 + 1) = (t q : Int) := by omega
                  have hvn : t q < n := by omega
                  rw [ev] at d1
                  have hck := cntB_le (fun j => decide (t j = t q)) q
                  have d2 := hT.cell hvn
                  have d3 := hT.free (t q)
                  have HT : Hid (OwnT wr gi 3 n (fun v => .int .i64 (cntB (fun j => decide (t j = v)) q : Int))) := hT
                  have HG : Hid (wl4.grownBy wr (some gi)) := hg
                  obtain ⟨X, hX⟩ : ∃ X, X = cntB (fun j => decide (t j = t q)) q := ⟨_, rfl⟩
                  obtain ⟨v, hv⟩ : ∃ v, v = t q := ⟨_, rfl⟩
                  rw [← hX] at d2 hck
                  rw [← hv] at d1 d2 d3 hvn
                  have HX : Hid (X = cntB (fun j => decide (t j = t q)) q) := hX
                  have HVQ : Hid (v = t q) := hv
                  subst hbe2
                  clear hT hg hX hv ev et v1 v2 hEr
                  go_wp2
                  go_roundw
                  case rel =>
                    obtain ⟨s1, s2⟩ := HT.out.set v (.int .i64 ((X : Int) + 1))
                    refine ⟨q + 1, by omega, by go_num, s1.congr fun u hu => ?_, grown_trans HG.out s2⟩
                    by_cases e : u = v
                    · rw [if_pos e, cntB, e, HVQ.out, ← HX.out]; simp
                    · rw [if_neg e, cntB]
                      have : ¬ t q = u := fun h => e (by rw [HVQ.out]; exact h.symm)
                      simp [this]
                  case measure => simp [intOf]; omega
                · obtain rfl : m = q := by omega
                  have HI : Hid (OwnT wr gi 3 n (fun v => .int .i64 (cntB (fun j => decide (t j = v)) m : Int))) := hT
                  have HP : Hid (OwnT wr gp 3 n (fun u => .int .i64 (posV L u))) := HP4.out.kept hg (by intro e; injection e with e; omega)
                  have HE : Hid (Env w wr b2 m z ao oc L gp) := hEr
                  obtain ⟨wl5, hwl⟩ : ∃ x : World, x = wr := ⟨_, rfl⟩
                  subst hwl
                  clear hT hg HE4 HP4 hlt2 hEr
                  go_wp2
                  go_loop [15, 16] (fun kk i => ∃ v : Nat, v ≤ n ∧ i = .int .i64 v ∧ kk = .int .i64 (((List.range v).filter fun u => decide (cntB (fun j => decide (t j = u)) m = 0)).length : Int)) (fun _ i => n - (intOf i).toNat)
                  case atStart => exact ⟨0, Nat.zero_le _, rfl, rfl⟩
                  case round =>
                    obtain ⟨v, hv, rfl, rfl⟩ := hrel
                    obtain ⟨kk, hkk⟩ : ∃ kk, kk = ((List.range v).filter fun u => decide (cntB (fun j => decide (t j = u)) m = 0)).length := ⟨_, rfl⟩
                    have HKK : Hid (kk = ((List.range v).filter fun u => decide (cntB (fun j => decide (t j = u)) m = 0)).length) := hkk
                    have hkv : kk ≤ v := by rw [hkk]; have := List.length_filter_le (fun u => decide (cntB (fun j => decide (t j = u)) m = 0)) (List.range v); simpa using this
                    rw [← hkk]
                    by_cases hlt2 : v < n
                    · have d0 := HI.out.cell hlt2
                      obtain ⟨X, hX⟩ : ∃ X, X = cntB (fun j => decide (t j = v)) m := ⟨_, rfl⟩
                      rw [← hX] at d0
                      have HX : Hid (X = cntB (fun j => decide (t j = v)) m) := hX
                      clear hX
                      by_cases hX0 : X = 0
                      · have hX0' : ((X : Int) == 0) = true := by simp [hX0]
                        have hs := cert_src HFIN.out hlt2 (by rw [← HX.out]; exact hX0)
                        rw [← hkk] at hs
                        obtain ⟨hkl, hkv2⟩ := List.getElem?_eq_some_iff.1 hs
                        obtain ⟨g, hao, hpl⟩ := HE.out.place hkl
                        have d1 := hpl kk hkl
                        rw [hkv2] at d1
                        have HX0 : Hid (X = 0) := hX0
                        have hao2 : Hid (ao = some ⟨g, 0, none⟩) := hao
                        subst hao
                        clear hs hkv2 hpl hX0 hkk
                        go_wp2
                        go_round
                        case rel =>
                          refine ⟨v + 1, by omega, by go_num, ?_⟩
                          have e : cntB (fun j => decide (t j = v)) m = 0 := by rw [← HX.out]; exact HX0.out
                          rw [List.range_succ, List.filter_append, List.length_append, ← HKK.out]
                          simp [e]
                        case measure => simp [intOf]; omega
                      · have hX0' : ((X : Int) == 0) = false := by simp; omega
                        have HX0 : Hid (¬ X = 0) := hX0
                        clear hX0 hkk
                        go_wp2
                        go_round
                        case rel =>
                          refine ⟨v + 1, by omega, by go_num, ?_⟩
                          have e : ¬ cntB (fun j => decide (t j = v)) m = 0 := by rw [← HX.out]; exact HX0.out
                          rw [List.range_succ, List.filter_append, List.length_append, ← HKK.out]
                          simp [e]
                        case measure => simp [intOf]; omega
                    · obtain rfl : n = v := by omega
                      have HKS : Hid (kk = (srcs n m t).length) := hkk
                      clear hkk HKK HI hlt2
                      go_wp2_with (first | (at_make; refine wpList_make_full _ rfl _ _ 32 rfl wl5.heap.size 4 i4 (.bool false) 1 Try.underlying32 hi4 hx0 hx1 _ _ _ _ n rfl rfl rfl rfl (by rw [hx2]; omega) (by unfold maxLen; omega) (Nat.le_refl _) ?_; intro wl6 hown6 hgr6) | (at_make; refine wpList_make_full _ rfl _ _ 31 rfl wl6.heap.size 3 i3 (.int .i64 0) 1 Try.underlying31 hi3 hy0 hy1 _ _ _ _ n rfl rfl rfl rfl (by rw [hy2]; omega) (by unfold maxLen; omega) (Nat.le_refl _) ?_; intro wl7 hown7 hgr7))
                      have HB7 : Hid (OwnT wl7 wl5.heap.size 4 n (fun _ => .bool false)) := (ownT_made2 rfl hown6).kept hgr7 (by simp)
                      have HP7 : Hid (OwnT wl7 gp 3 n (fun u => .int .i64 (posV L u))) := (HP.out.kept hgr6 (by simp)).kept hgr7 (by simp)
                      have HE7 : Hid (Env w wl7 b2 m z ao oc L gp) := (HE.out.kept hgr6 (by simp)).kept hgr7 (by simp)
                      have HL7 : Hid (OwnT wl7 wl6.heap.size 3 n (fun _ => .int .i64 0)) := ownT_made2 rfl hown7
                      have hgp5 := HP.out.lt
                      have hb6 : wl5.heap.size < wl6.heap.size := (ownT_made2 rfl hown6).lt
                      obtain ⟨gb, hgb⟩ : ∃ g, g = wl5.heap.size := ⟨_, rfl⟩
                      rw [← hgb] at HB7 hgp5 hb6 ⊢
                      obtain ⟨gl, hgl⟩ : ∃ g, g = wl6.heap.size := ⟨_, rfl⟩
                      rw [← hgl] at HL7 hb6 ⊢
                      clear hown6 hgr6 hown7 hgr7 HE HP hgb hgl
                      go_wp2
                      go_loopw [201] (fun i wr => ∃ (q : Nat) (F : Nat → Value), q ≤ n ∧ i = .int .i64 q ∧ (∀ u, u < q → F u = .int .i64 (-1)) ∧ OwnT wr gl 3 n F ∧ wl7.grownBy wr (some gl)) (fun i _ => n - (intOf i).toNat)
                      case atStart => exact ⟨0, _, Nat.zero_le _, rfl, fun u hu => by omega, HL7.out, grown_refl _ _⟩
                      case round =>
                        clear HL7
                        obtain ⟨q, F, hq, rfl, hF, hT, hg⟩ := hrel
                        by_cases hlt2 : q < n
                        · have d1 := hT.cell hlt2
                          have d2 := hT.free q
                          have HT : Hid (OwnT wr gl 3 n F) := hT
                          have HF : Hid (∀ u, u < q → F u = .int .i64 (-1)) := hF
                          have HG : Hid (wl7.grownBy wr (some gl)) := hg
                          obtain ⟨y, hy⟩ : ∃ y, y = F q := ⟨_, rfl⟩
                          rw [← hy] at d1
                          clear hT hF hg hy
                          go_wp2
                          go_roundw
                          case rel =>
                            obtain ⟨s1, s2⟩ := HT.out.set q (.int .i64 (-1))
                            refine ⟨q + 1, _, by omega, by go_num, fun u hu => ?_, s1, grown_trans HG.out s2⟩
                            by_cases e : u = q
                            · rw [if_pos e]
                            · rw [if_neg e]; exact HF.out u (by omega)
                          case measure => simp [intOf]; omega
                        · obtain rfl : n = q := by omega
                          have HL : Hid (OwnT wr gl 3 n (fun u => .int .i64 (lastK f t L 0 u))) := hT.congr fun u hu => by rw [hF u hu]; rfl
                          have HB : Hid (OwnT wr gb 4 n (fun u => .bool (blkK f t L 0 u))) := (HB7.out.kept hg (by intro e; injection e with e; omega)).congr fun u hu => rfl
                          have HP : Hid (OwnT wr gp 3 n (fun u => .int .i64 (posV L u))) := HP7.out.kept hg (by intro e; injection e with e; omega)
                          have HE : Hid (Env w wr b2 m z ao oc L gp) := HE7.out.kept hg (fun g e => by injection e with e; omega)
                          obtain ⟨wl8, hwl⟩ : ∃ x : World, x = wr := ⟨_, rfl⟩
                          subst hwl
                          clear hT hF hg HE7 HP7 HB7 hlt2
                          go_wp2
                          go_loopw [210] (fun i wr => ∃ q : Nat, q ≤ m ∧ i = .int .i64 q ∧ Tabs w wr b2 m z ao oc L n gp gb gl f t q) (fun i _ => m - (intOf i).toNat)
                          case atStart => exact ⟨0, Nat.zero_le _, rfl, HL.out, HB.out, HP.out, HE.out⟩
                          case round =>
                            clear HL HB HP HE
                            obtain ⟨q, hq, rfl, hL, hB, hP, hE⟩ := hrel
                            by_cases hlt2 : q < m
                            · obtain ⟨b, off, hbe2, d0, d1⟩ := hE.edge hlt2
                              obtain ⟨v3, v4, v1, v2⟩ := HV.out q hlt2
                              have et : t q = (z (q * 3 + 1)).toNat := by rw [HTT.out]
                              have ev : z (q * 3 + 1) = (t q : Int) := by omega
                              have hvn : t q < n := by omega
                              have eft : f q = (z (q * 3)).toNat := by rw [HFF.out]
                              have efv : z (q * 3) = (f q : Int) := by omega
                              have hfn : f q < n := by omega
                              rw [ev] at d1
                              rw [efv] at d0
                              have d2 := hP.cell hvn
                              have d3 := hP.cell hfn
                              have d4 := hB.cell hvn
                              have d5 := hB.free (t q)
                              have d6 := hL.cell hvn
                              have d7 := hL.free (t q)
                              have hcert := fun h => cert_edge HFIN.out hlt2 (f := f) (t := t) h
                              have bT := posV_lt L (t q)
                              have bF := posV_lt L (f q)
                              have bL := lastK_bd (f := f) (t := t) (L := L) q (t q)
                              have HTB : Hid (Tabs w wr b2 m z ao oc L n gp gb gl f t q) := ⟨hL, hB, hP, hE⟩
                              obtain ⟨T, hT⟩ : ∃ x, x = posV L (t q) := ⟨_, rfl⟩
                              obtain ⟨FF, hF⟩ : ∃ x, x = posV L (f q) := ⟨_, rfl⟩
                              obtain ⟨la, hla⟩ : ∃ x, x = lastK f t L q (t q) := ⟨_, rfl⟩
                              obtain ⟨bb, hbb⟩ : ∃ x, x = blkK f t L q (t q) := ⟨_, rfl⟩
                              obtain ⟨tv, htv⟩ : ∃ x, x = t q := ⟨_, rfl⟩
                              obtain ⟨fv, hfv⟩ : ∃ x, x = f q := ⟨_, rfl⟩
                              rw [← hT] at d2 hcert bT
                              rw [← hF] at d3 hcert bF
                              rw [← hbb] at d4
                              rw [← hla] at d6 bL
                              rw [← htv] at d1 d2 d4 d5 d6 d7 hvn
                              rw [← hfv] at d0 d3 hfn
                              have HTV : Hid (tv = t q) := htv
                              have HFV : Hid (fv = f q) := hfv
                              have HTp : Hid (T = posV L (t q)) := hT
                              have HFp : Hid (FF = posV L (f q)) := hF
                              have HLA : Hid (la = lastK f t L q (t q)) := hla
                              have hTF : T < 0 ∨ 0 ≤ T ∧ 0 ≤ FF ∧ FF < T := by
                                by_cases c : 0 ≤ T
                                · right; exact ⟨c, hcert c⟩
                                · left; omega
                              obtain ⟨bT1, bT2⟩ := bT
                              obtain ⟨bF1, bF2⟩ := bF
                              obtain ⟨bL1, bL2⟩ := bL
                              subst hbe2
                              clear hL hB hP hE hT hF hla hbb htv hfv hcert ev et eft efv v1 v2 v3 v4
                              have stepF : FF < 0 → (∀ u, lastK f t L (q + 1) u = lastK f t L q u) ∧ ∀ u, blkK f t L (q + 1) u = if u = tv then true else blkK f t L q u := by
                                intro hF
                                refine ⟨fun u => ?_, fun u => ?_⟩
                                · rw [lastK, if_neg (by rw [← HFp.out]; omega)]
                                · rw [blkK, HTV.out, ← HFp.out]
                                  by_cases e : u = t q
                                  · rw [if_pos ⟨e.symm, hF⟩, if_pos e]
                                  · rw [if_neg (fun h => e h.1.symm), if_neg e]
                              have stepL : ∀ (_ : 0 ≤ FF), (∀ u, blkK f t L (q + 1) u = blkK f t L q u) ∧ ∀ u, lastK f t L (q + 1) u = if u = tv ∧ la < FF then FF else lastK f t L q u := by
                                intro hF
                                refine ⟨fun u => ?_, fun u => ?_⟩
                                · rw [blkK, if_neg (by rw [← HFp.out]; omega)]
                                · rw [lastK, HTV.out, ← HFp.out]
                                  by_cases e : u = t q
                                  · subst e
                                    rw [← HLA.out]
                                    by_cases c : la < FF
                                    · rw [if_pos ⟨rfl, hF, c⟩, if_pos ⟨rfl, c⟩]
                                    · rw [if_neg (fun h => c h.2.2), if_neg (fun h => c h.2)]
                                  · rw [if_neg (fun h => e h.1.symm), if_neg (fun h => e h.1)]
                              have STF : Hid (FF < 0 → (∀ u, lastK f t L (q + 1) u = lastK f t L q u) ∧ ∀ u, blkK f t L (q + 1) u = if u = tv then true else blkK f t L q u) := stepF
                              have STL : Hid (∀ (_ : 0 ≤ FF), (∀ u, blkK f t L (q + 1) u = blkK f t L q u) ∧ ∀ u, lastK f t L (q + 1) u = if u = tv ∧ la < FF then FF else lastK f t L q u) := stepL
                              clear stepF stepL
                              rcases hTF with hT0 | ⟨hT0, hF0, hFT⟩
                              · have g1 : decide (0 ≤ T) = false := decide_eq_false (by omega)
                                by_cases hF0 : FF < 0
                                · go_wp2
                                  go_quiet (fail)
                                  go_wp2
                                  go_roundw
                                  case rel => exact ⟨q + 1, by omega, by go_num, tabs_block HTB.out (by omega) (by omega) (STF.out hF0).1 (STF.out hF0).2 _⟩
                                  case measure => simp [intOf]; omega
                                · by_cases hlf : la < FF
                                  · go_wp2
                                    go_quiet (fail)
                                    go_wp2
                                    go_quiet (fail)
                                    go_wp2
                                    go_roundw
                                    case rel => exact ⟨q + 1, by omega, by go_num, tabs_last HTB.out (by omega) (by omega) (STL.out (by omega)).1 (STL.out (by omega)).2 hlf _⟩
                                    case measure => simp [intOf]; omega
                                  · go_wp2
                                    go_quiet (fail)
                                    go_wp2
                                    go_quiet (fail)
                                    go_wp2
                                    go_roundw
                                    case rel => exact ⟨q + 1, by omega, by go_num, tabs_none HTB.out (STL.out (by omega)).1 (STL.out (by omega)).2 (by omega) _⟩
                                    case measure => simp [intOf]; omega
                              · have g2 : decide (FF < 0) = false := decide_eq_false (by omega)
                                by_cases hlf : la < FF
                                · go_wp2
                                  go_quiet (fail)
                                  go_wp2
                                  go_quiet (fail)
                                  go_wp2
                                  go_roundw
                                  case rel => exact ⟨q + 1, by omega, by go_num, tabs_last HTB.out (by omega) (by omega) (STL.out (by omega)).1 (STL.out (by omega)).2 hlf _⟩
                                  case measure => simp [intOf]; omega
                                · go_wp2
                                  go_quiet (fail)
                                  go_wp2
                                  go_quiet (fail)
                                  go_wp2
                                  go_roundw
                                  case rel => exact ⟨q + 1, by omega, by go_num, tabs_none HTB.out (STL.out (by omega)).1 (STL.out (by omega)).2 (by omega) _⟩
                                  case measure => simp [intOf]; omega
                            · obtain rfl : m = q := by omega
                              have HL : Hid (OwnT wr gl 3 n (fun u => .int .i64 (lastK f t L m u))) := hL
                              have HB : Hid (OwnT wr gb 4 n (fun u => .bool (blkK f t L m u))) := hB
                              have HP : Hid (OwnT wr gp 3 n (fun u => .int .i64 (posV L u))) := hP
                              have HE : Hid (Env w wr b2 m z ao oc L gp) := hE
                              obtain ⟨wl9, hwl⟩ : ∃ x : World, x = wr := ⟨_, rfl⟩
                              subst hwl
                              clear hL hB hP hE hlt2
                              go_wp2
                              go_loop [23] (fun i => ∃ v : Nat, v ≤ n ∧ i = .int .i64 v) (fun i => n - (intOf i).toNat)
                              case atStart => exact ⟨0, Nat.zero_le _, rfl⟩
                              case round =>
                                obtain ⟨v, hv, rfl⟩ := hrel
                                by_cases hlt2 : v < n
                                · have d0 := HP.out.cell hlt2
                                  have d1 := HB.out.cell hlt2
                                  have hcert := fun h => cert_blocked HFIN.out hlt2 h
                                  obtain ⟨p, hp⟩ : ∃ x, x = posV L v := ⟨_, rfl⟩
                                  obtain ⟨bb, hbb⟩ : ∃ x, x = blkK f t L m v := ⟨_, rfl⟩
                                  rw [← hp] at d0 hcert
                                  rw [← hbb] at d1 hcert
                                  clear hp hbb
                                  by_cases c : p < 0
                                  · have := hcert c
                                    subst this
                                    clear hcert
                                    go_wp2
                                    go_round
                                    case rel => exact ⟨v + 1, by omega, by go_num⟩
                                    case measure => simp [intOf]; omega
                                  · clear hcert
                                    go_wp2
                                    go_round
                                    case rel => exact ⟨v + 1, by omega, by go_num⟩
                                    case measure => simp [intOf]; omega
                                · obtain rfl : n = v := by omega
                                  clear hlt2
                                  go_wp2_with (at_make; refine wpList_make_full _ rfl _ _ 31 rfl wl9.heap.size 3 i3 (.int .i64 0) 1 Try.underlying31 hi3 hy0 hy1 _ _ _ _ n rfl rfl rfl rfl (by rw [hy2]; omega) (by unfold maxLen; omega) (Nat.le_refl _) ?_)
                                  intro wl10 hown4 hgr4
                                  have HE10 : Hid (Env w wl10 b2 m z ao oc L gp) := HE.out.kept hgr4 (by simp)
                                  have HP10 : Hid (OwnT wl10 gp 3 n (fun u => .int .i64 (posV L u))) := HP.out.kept hgr4 (by simp)
                                  have HL10 : Hid (OwnT wl10 gl 3 n (fun u => .int .i64 (lastK f t L m u))) := HL.out.kept hgr4 (by simp)
                                  have HD10 : Hid (OwnT wl10 wl9.heap.size 3 n (fun _ => .int .i64 0)) := ownT_made hown4
                                  have hgl9 := HL.out.lt
                                  have hgp9 := HP.out.lt
                                  obtain ⟨gd, hgd⟩ : ∃ g, g = wl9.heap.size := ⟨_, rfl⟩
                                  rw [← hgd] at HD10 hgl9 hgp9 ⊢
                                  clear hown4 hgr4 HE HP HL HB hgd
                                  go_wp2
                                  go_loopw [292] (fun i wr => ∃ (q : Nat) (F : Nat → Value), q ≤ n ∧ i = .int .i64 q ∧ (∀ u, u < q → F u = .int .i64 (-1)) ∧ OwnT wr gd 3 n F ∧ wl10.grownBy wr (some gd)) (fun i _ => n - (intOf i).toNat)
                                  case atStart => exact ⟨0, _, Nat.zero_le _, rfl, fun u hu => by omega, HD10.out, grown_refl _ _⟩
                                  case round =>
                                    clear HD10
                                    obtain ⟨q, F, hq, rfl, hF, hT, hg⟩ := hrel
                                    by_cases hlt2 : q < n
                                    · have d1 := hT.cell hlt2
                                      have d2 := hT.free q
                                      have HT : Hid (OwnT wr gd 3 n F) := hT
                                      have HF : Hid (∀ u, u < q → F u = .int .i64 (-1)) := hF
                                      have HG : Hid (wl10.grownBy wr (some gd)) := hg
                                      obtain ⟨y, hy⟩ : ∃ y, y = F q := ⟨_, rfl⟩
                                      rw [← hy] at d1
                                      clear hT hF hg hy
                                      go_wp2
                                      go_roundw
                                      case rel =>
                                        obtain ⟨s1, s2⟩ := HT.out.set q (.int .i64 (-1))
                                        refine ⟨q + 1, _, by omega, by go_num, fun u hu => ?_, s1, grown_trans HG.out s2⟩
                                        by_cases e : u = q
                                        · rw [if_pos e]
                                        · rw [if_neg e]; exact HF.out u (by omega)
                                      case measure => simp [intOf]; omega
                                    · obtain rfl : n = q := by omega
                                      have HD : Hid (OwnT wr gd 3 n (fun u => .int .i64 (leK f t L (lastK f t L m) 0 u))) := hT.congr fun u hu => by rw [hF u hu]; rfl
                                      have HL : Hid (OwnT wr gl 3 n (fun u => .int .i64 (lastK f t L m u))) := HL10.out.kept hg (by intro e; injection e with e; omega)
                                      have HP : Hid (OwnT wr gp 3 n (fun u => .int .i64 (posV L u))) := HP10.out.kept hg (by intro e; injection e with e; omega)
                                      have HE : Hid (Env w wr b2 m z ao oc L gp) := HE10.out.kept hg (fun g e => by injection e with e; omega)
                                      obtain ⟨wl11, hwl⟩ : ∃ x : World, x = wr := ⟨_, rfl⟩
                                      subst hwl
                                      clear hT hF hg HE10 HP10 HL10 hlt2
                                      go_wp2
                                      go_loopw [301] (fun i wr => ∃ q : Nat, q ≤ m ∧ i = .int .i64 q ∧ OwnT wr gd 3 n (fun u => .int .i64 (leK f t L (lastK f t L m) q u)) ∧ wl11.grownBy wr (some gd)) (fun i _ => m - (intOf i).toNat)
                                      case atStart => exact ⟨0, Nat.zero_le _, rfl, HD.out, grown_refl _ _⟩
                                      case round =>
                                        clear HD
                                        obtain ⟨q, hq, rfl, hD, hg⟩ := hrel
                                        have hE : Env w wr b2 m z ao oc L gp := HE.out.kept hg (fun g e => by injection e with e; omega)
                                        have hP : OwnT wr gp 3 n (fun u => .int .i64 (posV L u)) := HP.out.kept hg (by intro e; injection e with e; omega)
                                        have hL : OwnT wr gl 3 n (fun u => .int .i64 (lastK f t L m u)) := HL.out.kept hg (by intro e; injection e with e; omega)
                                        by_cases hlt2 : q < m
                                        · obtain ⟨b, off, hbe2, d0, d1⟩ := hE.edge hlt2
                                          obtain ⟨v3, v4, v1, v2⟩ := HV.out q hlt2
                                          have et : t q = (z (q * 3 + 1)).toNat := by rw [HTT.out]
                                          have ev : z (q * 3 + 1) = (t q : Int) := by omega
                                          have hvn : t q < n := by omega
                                          have eft : f q = (z (q * 3)).toNat := by rw [HFF.out]
                                          have efv : z (q * 3) = (f q : Int) := by omega
                                          have hfn : f q < n := by omega
                                          rw [ev] at d1
                                          rw [efv] at d0
                                          have d3 := hP.cell hfn
                                          have d6 := hL.cell hvn
                                          have d8 := hD.cell hvn
                                          have d9 := hD.free (t q)
                                          have bF := posV_lt L (f q)
                                          have HD : Hid (OwnT wr gd 3 n (fun u => .int .i64 (leK f t L (lastK f t L m) q u))) := hD
                                          have HG : Hid (wl11.grownBy wr (some gd)) := hg
                                          obtain ⟨FF, hF⟩ : ∃ x, x = posV L (f q) := ⟨_, rfl⟩
                                          obtain ⟨la, hla⟩ : ∃ x, x = lastK f t L m (t q) := ⟨_, rfl⟩
                                          obtain ⟨ld, hld⟩ : ∃ x, x = leK f t L (lastK f t L m) q (t q) := ⟨_, rfl⟩
                                          obtain ⟨tv, htv⟩ : ∃ x, x = t q := ⟨_, rfl⟩
                                          obtain ⟨fv, hfv⟩ : ∃ x, x = f q := ⟨_, rfl⟩
                                          rw [← hF] at d3 bF
                                          rw [← hla] at d6
                                          rw [← hld] at d8
                                          rw [← htv] at d1 d6 d8 d9 hvn
                                          rw [← hfv] at d0 d3 hfn
                                          have HTV : Hid (tv = t q) := htv
                                          have HFp : Hid (FF = posV L (f q)) := hF
                                          have HLA : Hid (la = lastK f t L m (t q)) := hla
                                          obtain ⟨bF1, bF2⟩ := bF
                                          subst hbe2
                                          clear hD hP hE hL hF hla hld htv hfv ev et eft efv v1 v2 v3 v4 hg
                                          by_cases hF0 : 0 ≤ FF
                                          · by_cases heq : FF = la
                                            · have g1 : (FF == la) = true := by simpa using heq
                                              have HEQ : Hid (FF = la) := heq
                                              clear heq
                                              go_wp2
                                              go_quiet (fail)
                                              go_wp2
                                              go_roundw
                                              case rel =>
                                                have R := fun N => le_store HD.out HTV.out (by rw [← HFp.out]; omega) (by rw [← HFp.out, ← HLA.out]; exact HEQ.out) N
                                                exact ⟨q + 1, by omega, by go_num, (R _).1, grown_trans HG.out (R _).2⟩
                                              case measure => simp [intOf]; omega
                                            · have g1 : (FF == la) = false := by simpa using heq
                                              have HEQ : Hid (¬ FF = la) := heq
                                              clear heq
                                              go_wp2
                                              go_quiet (fail)
                                              go_wp2
                                              go_roundw
                                              case rel =>
                                                have R := fun N => le_skip HD.out (fun h => HEQ.out (by rw [HFp.out, HLA.out]; exact h.2)) N
                                                exact ⟨q + 1, by omega, by go_num, (R _).1, grown_trans HG.out (R _).2⟩
                                              case measure => simp [intOf]; omega
                                          · have g1 : decide (0 ≤ FF) = false := decide_eq_false hF0
                                            go_wp2
                                            go_quiet (fail)
                                            go_wp2
                                            go_roundw
                                            case rel =>
                                              have R := fun N => le_skip HD.out (fun h => by have h1 := h.1; rw [← HFp.out] at h1; omega) N
                                              exact ⟨q + 1, by omega, by go_num, (R _).1, grown_trans HG.out (R _).2⟩
                                            case measure => simp [intOf]; omega
                                        · obtain rfl : m = q := by omega
                                          have HD : Hid (OwnT wr gd 3 n (fun u => .int .i64 (leK f t L (lastK f t L m) m u))) := hD
                                          have HL2 : Hid (OwnT wr gl 3 n (fun u => .int .i64 (lastK f t L m u))) := hL
                                          have HE2 : Hid (Env w wr b2 m z ao oc L gp) := hE
                                          obtain ⟨wl12, hwl⟩ : ∃ x : World, x = wr := ⟨_, rfl⟩
                                          subst hwl
                                          clear hL hP hE hD hg hlt2 HE HP HL
                                          go_wp2
                                          go_loopw [29] (fun i wr => ∃ q : Nat, kk + 1 ≤ q ∧ i = .int .i64 q ∧ wl12.grownBy wr none) (fun i _ => L.length - (intOf i).toNat)
                                          case atStart => exact ⟨kk + 1, Nat.le_refl _, by go_num, grown_refl _ _⟩
                                          case round =>
                                            obtain ⟨q, hq, rfl, hg⟩ := hrel
                                            have HG : Hid (wl12.grownBy wr none) := hg
                                            by_cases hlt2 : q < L.length
                                            · have hE : Env w wr b2 m z ao oc L gp := HE2.out.kept hg (by simp)
                                              have hL : OwnT wr gl 3 n (fun u => .int .i64 (lastK f t L m u)) := HL2.out.kept hg (by simp)
                                              have hD : OwnT wr gd 3 n (fun u => .int .i64 (leK f t L (lastK f t L m) m u)) := HD.out.kept hg (by simp)
                                              obtain ⟨g, hao, hpl⟩ := hE.place hlt2
                                              have d0 := hpl (q - 1) (by omega)
                                              have d1 := hpl q hlt2
                                              have hcert := cert_rest HFIN.out (i := q) (a := L[q - 1]'(by omega)) (b := L[q]) (by rw [← HKS.out]; omega) (List.getElem?_eq_getElem (by omega)) (List.getElem?_eq_getElem hlt2)
                                              have han : L[q - 1]'(by omega) < n := HFIN.out.f3 _ (List.getElem_mem _)
                                              have hbn : L[q] < n := HFIN.out.f3 _ (List.getElem_mem _)
                                              have d2 := hL.cell han
                                              have d3 := hL.cell hbn
                                              have d4 := hD.cell han
                                              have d5 := hD.cell hbn
                                              obtain ⟨a, ha⟩ : ∃ x, x = L[q - 1]'(by omega) := ⟨_, rfl⟩
                                              obtain ⟨b, hb⟩ : ∃ x, x = L[q] := ⟨_, rfl⟩
                                              rw [← ha] at d0 hcert han d2 d4
                                              rw [← hb] at d1 hcert hbn d3 d5
                                              obtain ⟨la, hla⟩ : ∃ x, x = lastK f t L m a := ⟨_, rfl⟩
                                              obtain ⟨lb, hlb⟩ : ∃ x, x = lastK f t L m b := ⟨_, rfl⟩
                                              obtain ⟨ea, hea⟩ : ∃ x, x = leK f t L (lastK f t L m) m a := ⟨_, rfl⟩
                                              obtain ⟨eb, heb⟩ : ∃ x, x = leK f t L (lastK f t L m) m b := ⟨_, rfl⟩
                                              rw [← hla] at hcert d2
                                              rw [← hlb] at hcert d3
                                              rw [← hea] at hcert d4
                                              rw [← heb] at hcert d5
                                              subst hao
                                              clear hE hL hD hpl ha hb hla hlb hea heb hg
                                              have hq1 : 1 ≤ q := by omega
                                              rcases hcert with hc | ⟨hc1, hc2⟩
                                              · have g1 : decide (lb < la) = false := decide_eq_false (by omega)
                                                have g2 : (la == lb) = false := by simp; omega
                                                go_wp2
                                                go_quiet (fail)
                                                go_wp2
                                                go_roundw
                                                case rel => exact ⟨q + 1, by omega, by go_num, grown_drewN HG.out _⟩
                                                case measure => simp [intOf]; omega
                                              · have g1 : decide (lb < la) = false := decide_eq_false (by omega)
                                                have g2 : (la == lb) = true := by simp; omega
                                                have g3 : decide (eb ≤ ea) = false := decide_eq_false (by omega)
                                                clear hc1
                                                go_wp2
                                                go_quiet (fail)
                                                go_wp2
                                                go_roundw
                                                case rel => exact ⟨q + 1, by omega, by go_num, grown_drewN HG.out _⟩
                                                case measure => simp [intOf]; omega
                                            · clear hg
                                              go_wp2
                                              go_ret
                                              exact ⟨rfl, grown_below (grown_trans HE2.out.gr HG.out)⟩
end Go.Proofs.Qxb6605286a
