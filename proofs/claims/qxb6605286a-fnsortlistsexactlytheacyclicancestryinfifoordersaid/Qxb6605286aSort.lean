/-
  (*graph).sort.
-/
import Derived.Test.Qxb6605286aSortM
import Derived.Test.Qxb6605286aAdj
import Derived.Deep.QuietTactic
import Derived.BigQuiet
namespace Go.Proofs.Qxb6605286a
open Go.RowKit

theorem Try.info21 : (Try.prog.info? 21).map (fun i => (i.zero, i.size, i.bytes)) = some (some (.int .i32 0), 1, 4) := by kernel_rfl
theorem one_i32 (c : Int) : ∀ u ∈ [Value.int .i32 c], u.oneCell' = true := by intro u hu; simp at hu; subst hu; rfl
theorem beq_nat (a b : Nat) : ((a : Int) == (b : Int)) = decide (a = b) := by
  rw [Bool.eq_iff_iff]; simp only [beq_iff_eq, decide_eq_true_eq]; omega
theorem own_drewN {w : World} {base : Nat} {e : TypeId} {size : Nat} {v : Value} {n : Nat} {xs : List Value} (h : w.ownsRow base e size v n xs) (q : Nat) : (w.drewN q).ownsRow base e size v n xs := h
theorem grown_drewN {w w' : World} {row : Option Nat} (h : w.grownBy w' row) (q : Nat) : w.grownBy (w'.drewN q) row := ⟨h.os, h.tape, h.output, h.size, h.block⟩
theorem cell_one_at (w : World) (x : Value) (t : TypeId) (B : Nat) (hB : w.heap.size = B) : ∀ j u, [x][j]? = some u → (w.alloc (.cells #[x] t)).cell? ((⟨B, 0, none⟩ : Addr).add j) = some u := by
  subst hB; exact cell_one_new w x t
/-- No edge leads to v. -/
def srcB (t : Nat → Nat) (m v : Nat) : Bool := decide (cntB (fun j => decide (t j = v)) m = 0)

set_option maxHeartbeats 4000000 in
set_option maxRecDepth 10000 in
theorem sort_any (G : Nat) (Ra Ea : Option Addr) (n cR m cE : Nat) (z : Nat → Int) (w : World) (hn : n ≤ 16384) (hm : m ≤ 65536) (hR : w.cell? ⟨G, 1, none⟩ = some (.slice Ra n cR)) (hE : w.cell? ⟨G, 7, none⟩ = some (.slice Ea m cE))
    (hC : Cells w Ea (m * 3) (fun i => .int .i32 (z i))) (hz : ∀ j, j < m → 0 ≤ z (j * 3) ∧ z (j * 3) < n ∧ 0 ≤ z (j * 3 + 1) ∧ z (j * 3 + 1) < n) :
    Calls Try.prog 20 #[.pointer (some ⟨G, 0, none⟩)] w fun e w' => ∃ ao c L C, e = .returned (.tuple #[.slice ao L.length c, .bool (decide (L.length = n))]) ∧ w'.ownsRow w.heap.size 21 1 (.slice ao L.length c) L.length (L.map fun (x : Nat) => Value.int .i32 (x : Int)) ∧
      Fin n m (fun j => (z (j * 3)).toNat) (fun j => (z (j * 3 + 1)).toNat) L C ∧ w.grownBy w' none := by
  obtain ⟨i0, hi, hz0, hz1, hz2⟩ := info_parts Try.info21
  have HC : Hid (Cells w Ea (m * 3) (fun i => .int .i32 (z i))) := hC
  have HZ : Hid (∀ j, j < m → 0 ≤ z (j * 3) ∧ z (j * 3) < n ∧ 0 ≤ z (j * 3 + 1) ∧ z (j * 3 + 1) < n) := hz
  have HR : Hid (w.cell? ⟨G, 1, none⟩ = some (.slice Ra n cR)) := hR
  have HE : Hid (w.cell? ⟨G, 7, none⟩ = some (.slice Ea m cE)) := hE
  have hG : G < w.heap.size := World.block_lt_of_cell? w _ hR
  obtain ⟨t, ht⟩ : ∃ t : Nat → Nat, t = fun j => (z (j * 3 + 1)).toNat := ⟨_, rfl⟩
  obtain ⟨f, hf⟩ : ∃ f : Nat → Nat, f = fun j => (z (j * 3)).toNat := ⟨_, rfl⟩
  rw [← ht, ← hf]
  have HT : Hid (t = fun j => (z (j * 3 + 1)).toNat) := ht
  have HF : Hid (f = fun j => (z (j * 3)).toNat) := hf
  clear hC hz ht hf
  go_enter Try.func20, Try.ntmps20
  go_upto_region 2 with (at_make; refine wpList_make_full _ rfl _ _ 28 rfl w.heap.size 21 i0 (.int .i32 0) 1 Try.underlying28 hi hz0 hz1 _ _ _ _ n rfl rfl rfl rfl ?b1 ?b2 ?b3 ?_)
  case b1 => rw [hz2]; omega
  case b2 => unfold maxLen; omega
  case b3 => exact Nat.le_refl _
  intro w1 hown1 hgr1
  have HI1 : Hid (w1.ownsRow w.heap.size 21 1 (.slice (some ⟨w.heap.size, 0, none⟩) n n) n (seg (inF t (fun _ => true) 0) 0 n)) := by
    rw [made_seg] at hown1; exact hown1
  have HG1 : Hid (w.grownBy w1 none) := hgr1
  have hE1 : w1.cell? ⟨G, 7, none⟩ = some (.slice Ea m cE) := by rw [grown_cell hgr1 hG (by simp)]; exact hE
  clear hown1 hgr1 hR hE
  go_wp2
  go_loopw [25] (fun i wr => ∃ k : Nat, k ≤ m ∧ i = .int .i64 k ∧ wr.ownsRow w.heap.size 21 1 (.slice (some ⟨w.heap.size, 0, none⟩) n n) n (seg (inF t (fun _ => true) k) 0 n) ∧ w.grownBy wr none) (fun i _ => m - (intOf i).toNat)
  case atStart => exact ⟨0, Nat.zero_le _, rfl, HI1.out, HG1.out⟩
  case round =>
    clear HI1 HG1 hE1
    obtain ⟨k, hk, rfl, hown, hgr⟩ := hrel
    have HO : Hid (wr.ownsRow w.heap.size 21 1 (.slice (some ⟨w.heap.size, 0, none⟩) n n) n (seg (inF t (fun _ => true) k) 0 n)) := hown
    have HG : Hid (w.grownBy wr none) := hgr
    by_cases hlt : k < m
    · obtain ⟨b, off, ex, hb, hcl⟩ := HC.out.at (by omega)
      subst ex
      obtain ⟨_, _, q3, q4⟩ := HZ.out k hlt
      obtain ⟨v, hv⟩ : ∃ v : Nat, z (k * 3 + 1) = v := ⟨(z (k * 3 + 1)).toNat, by omega⟩
      have hvn : v < n := by omega
      have HV : Hid (t k = v) := by have e : t k = (z (k * 3 + 1)).toNat := by rw [HT.out]
                                    exact e.trans (by omega)
      have c0 : wr.cell? ⟨b, off + k * 3, none⟩ = some (.int .i32 (z (k * 3))) := by rw [grown_cell hgr hb (by simp)]; exact hcl (k * 3) (by omega)
      have c1 : wr.cell? ⟨b, off + k * 3 + 1, none⟩ = some (.int .i32 (v : Int)) := by rw [Nat.add_assoc, grown_cell hgr hb (by simp), ← hv]; exact hcl (k * 3 + 1) (by omega)
      have c2 : wr.cell? ⟨b, off + k * 3 + 2, none⟩ = some (.int .i32 (z (k * 3 + 2))) := by rw [Nat.add_assoc, grown_cell hgr hb (by simp)]; exact hcl (k * 3 + 2) (by omega)
      obtain ⟨X, hX⟩ : ∃ X : Nat, X = cntB (fun j => decide (t j = v) && true) k := ⟨_, rfl⟩
      have hXk : X ≤ k := by rw [hX]; exact cntB_le _ _
      have HX : Hid (X = cntB (fun j => decide (t j = v) && true) k) := hX
      have c3 : wr.cell? ⟨w.heap.size, v, none⟩ = some (.int .i32 (X : Int)) := by rw [hown.cellAt v (by omega), seg_at _ _ _ _ hvn, Nat.zero_add, hX]; rfl
      have c4 := hown.frozenAt v
      have hsz : w.heap.size < wr.heap.size := World.block_lt_of_cell? wr _ c3
      clear hown hgr hcl hv hX q3 q4
      go_wp2
      go_roundw
      case rel =>
        obtain ⟨s1, s2⟩ := HO.out.stored v (.int .i32 ((X : Int) + 1))
        rw [seg_set, HX.out, inF_step HV.out, ← HX.out] at s1
        exact ⟨k + 1, by omega, by go_num, s1.alloc _, grown_trans (grown_own HG.out s2 (Nat.le_refl _)) (World.grownBy_alloc _ _ _)⟩
      case measure => simp [intOf]; omega
    · obtain rfl : k = m := by omega
      obtain ⟨wo, hwo⟩ : ∃ wo : World, wo = wr := ⟨_, rfl⟩
      subst hwo
      clear hown hgr
      go_wp2
      go_loopw [7, 39] (fun v i wr => ∃ j : Nat, j ≤ n ∧ i = .int .i64 j ∧ wr.ownsRow (wo.heap.size) 21 1 v ((List.range j).filter (srcB t k)).length (((List.range j).filter (srcB t k)).map fun (x : Nat) => Value.int .i32 (x : Int)) ∧ wo.grownBy wr none) (fun _ i _ => n - (intOf i).toNat)
      case atStart => exact ⟨0, Nat.zero_le _, rfl, World.ownsRow_nil _ _ _ _, grown_refl _ _⟩
      case round =>
        obtain ⟨j, hj, rfl, hown2, hgr2⟩ := hrel
        obtain ⟨S, hS⟩ : ∃ S, S = (List.range j).filter (srcB t k) := ⟨_, rfl⟩
        have HS : Hid (S = (List.range j).filter (srcB t k)) := hS
        have hSl : S.length ≤ j := by rw [hS]; have := List.length_filter_le (srcB t k) (List.range j); simpa using this
        rw [← hS] at hown2
        have HO2 : Hid (wr.ownsRow (wo.heap.size) 21 1 u7 S.length (S.map fun (x : Nat) => Value.int .i32 (x : Int))) := hown2
        have HG2 : Hid (wo.grownBy wr none) := hgr2
        have hsw := HG.out.size
        have hswo := hgr2.size
        by_cases hlt2 : j < n
        · obtain ⟨X, hX⟩ : ∃ X : Nat, X = cntB (fun i => decide (t i = j) && true) k := ⟨_, rfl⟩
          have hXk : X ≤ k := by rw [hX]; exact cntB_le _ _
          have eX : X = cntB (fun i => decide (t i = j)) k := by rw [hX]; exact cntB_congr fun i _ => by simp
          have HX : Hid (X = cntB (fun i => decide (t i = j)) k) := eX
          have c3 : wr.cell? ⟨w.heap.size, j, none⟩ = some (.int .i32 (X : Int)) := by
            rw [grown_cell hgr2 (HO.out.lt w.heap.size rfl).2 (by simp), HO.out.cellAt j (by omega), seg_at _ _ _ _ hlt2, Nat.zero_add, hX]; rfl
          clear hown2 hgr2 hX hS eX
          by_cases hX0 : X = 0
          · have hX0' : ((X : Int) == 0) = true := by simp [hX0]
            have HX0 : Hid (X = 0) := hX0
            clear hX0
            go_wp2_with (at_builtin; refine wpList_append_lies _ rfl _ _ 28 rfl wo.heap.size 21 i0 (.int .i32 0) 1 4 Try.underlying28 hi hz0 hz1 hz2 rfl (by decide) u7 S.length _ rfl (HO2.out.alloc _) ⟨wr.heap.size, 0, none⟩ 1 1 [.int .i32 (j : Int)] rfl rfl (cell_one_new _ _ _) (one_i32 _) (by omega) (by unfold maxLen; omega) (by omega) (by simp; omega) _ rfl ?_)
            intro g cap w2 hown3 hgrow3 hat3 hlt3
            have R1 : Hid (wo.grownBy w2 none) := grown_own' HG2.out (grown_alloc hgrow3) fun b hb => (HO2.out.lt b hb).1
            have R2 : Hid (w2.ownsRow wo.heap.size 21 1 (.slice (some ⟨g, 0, none⟩) (S.length + 1) cap) (S.length + 1) ((S.map fun (x : Nat) => Value.int .i32 (x : Int)) ++ [.int .i32 (j : Int)])) := hown3
            clear hown3 hgrow3 hat3 hlt3 HO2 HG2 c3
            go_wp2
            go_roundw
            case rel =>
              have e : (List.range (j + 1)).filter (srcB t k) = S ++ [j] := by
                rw [HS.out, List.range_succ, List.filter_append]
                have : srcB t k j = true := by unfold srcB; rw [← HX.out, HX0.out]; rfl
                simp [this]
              have R3 : w2.ownsRow wo.heap.size 21 1 (.slice (some ⟨g, 0, none⟩) (S.length + 1) cap) ((List.range (j + 1)).filter (srcB t k)).length (((List.range (j + 1)).filter (srcB t k)).map fun (x : Nat) => Value.int .i32 (x : Int)) := by
                rw [e, List.length_append, List.map_append]; exact R2.out
              first
                | exact ⟨j + 1, by omega, by go_num, R3, R1.out⟩
                | ((repeat apply Exists.intro); exact ⟨⟨j + 1, by omega, by go_num, R3, R1.out⟩, rfl⟩)
            case measure => simp [intOf]; omega
          · have hX0' : ((X : Int) == 0) = false := by simp; omega
            have HX0 : Hid (¬ X = 0) := hX0
            clear hX0
            go_wp2
            go_roundw
            case rel =>
              have e : (List.range (j + 1)).filter (srcB t k) = S := by
                rw [HS.out, List.range_succ, List.filter_append]
                have : srcB t k j = false := by unfold srcB; rw [← HX.out]; exact decide_eq_false HX0.out
                simp [this]
              have R3 : wr.ownsRow wo.heap.size 21 1 u7 ((List.range (j + 1)).filter (srcB t k)).length (((List.range (j + 1)).filter (srcB t k)).map fun (x : Nat) => Value.int .i32 (x : Int)) := by
                rw [e]; exact HO2.out
              first
                | exact ⟨j + 1, by omega, by go_num, R3, HG2.out⟩
                | ((repeat apply Exists.intro); exact ⟨⟨j + 1, by omega, by go_num, R3, HG2.out⟩, rfl⟩)
            case measure => simp [intOf]; omega
        · obtain rfl : j = n := by omega
          clear hown2 hgr2
          have hgw := grown_trans HG.out HG2.out
          have hGR : wr.cell? ⟨G, 1, none⟩ = some (.slice Ra j cR) := by rw [grown_cell hgw hG (by simp)]; exact HR.out
          have hGE : wr.cell? ⟨G, 7, none⟩ = some (.slice Ea k cE) := by rw [grown_cell hgw hG (by simp)]; exact HE.out
          have hCE : Cells wr Ea (k * 3) (fun i => .int .i32 (z i)) := HC.out.mono hgw (by simp)
          have HADJ : Hid (Calls Try.prog 24 #[.pointer (some ⟨G, 0, none⟩), .nilFunc] wr fun e w' => e = .returned (.slice (some ⟨wr.heap.size, 0, none⟩) j j) ∧ (∃ rows, Adj w' wr.heap.size j rows z (outs f k)) ∧ wr.grownBy w' none) := by
            have := adj_any G Ra Ea j cR k cE z wr hn hm hGR hGE hCE (fun q hq => ⟨(HZ.out q hq).1, (HZ.out q hq).2.1⟩)
            rw [HF.out]; exact this
          have HGW : Hid (w.grownBy wr none) := hgw
          clear hgw hGR hGE hCE
          go_wp2_with fail
          refine HADJ.out.mono ?_
          rintro e w2 ⟨rfl, ⟨rows, hadj⟩, hgrA⟩
          have HST : Hid (St w w2 w.heap.size wr.heap.size j k z f t rows u7 (srcs j k t) (fun _ => false)) := by
            have h1 := HO.out.lt w.heap.size rfl
            have e : S = srcs j k t := HS.out
            rw [← e]
            refine ⟨?_, (own_base HO2.out (by omega)).kept hgrA (by cases u7.ownBlock <;> simp), hadj, ?_, ⟨Nat.le_refl _, by omega⟩, grown_trans HGW.out hgrA⟩
            · exact (HO.out.kept HG2.out (.inr (by simp [Value.ownBlock]))).kept hgrA (.inr (by simp [Value.ownBlock]))
            · intro g hg
              have h2 := HO2.out.lt g hg
              refine ⟨by omega, by omega, fun u hu e => ?_⟩
              have := (hadj.2.1 u hu).lt g e
              omega
          have hgA := hgrA.size
          have hcE2 : w2.cell? ⟨G, 1, none⟩ = some (.slice Ra j cR) := by rw [grown_cell (grown_trans HGW.out hgrA) hG (by simp)]; exact HR.out
          clear hadj hgrA HO HG HO2 HG2 HADJ HGW HS hSl hsw hswo
          obtain ⟨go, hgo⟩ : ∃ go, go = wr.heap.size := ⟨_, rfl⟩
          rw [← hgo] at HST ⊢
          clear hgo
          go_wp2
          go_loopw [7, 11] (fun ov iv wr => ∃ (L C : List Nat) (i : Nat) (p : Nat → Bool), i ≤ L.length ∧ iv = .int .i64 i ∧ Inv j k f t L C i 0 ∧ (∀ q, p q = true ↔ Proc k f L i 0 q) ∧ St w wr w.heap.size go j k z f t rows ov L p) (fun _ iv _ => j - (intOf iv).toNat)
          case atStart =>
            refine ⟨_, [], 0, _, Nat.zero_le _, rfl, inv_start, fun q => ?_, HST.out⟩
            simp only [Bool.false_eq_true, false_iff]
            rintro ⟨_, h | ⟨_, h⟩⟩
            · omega
            · simp at h
          case round =>
            clear HST hcE2
            obtain ⟨L, C, i, p, hiL, rfl, hinv, hp, hst⟩ := hrel
            have hLn := inv_len hinv
            obtain ⟨ao, oc, hform⟩ := own_form hst.ord
            have HST : Hid (St w wr w.heap.size go j k z f t rows (.slice ao L.length oc) L p) := by rw [← hform]; exact hst
            have HINV : Hid (Inv j k f t L C i 0) := hinv
            have HP : Hid (∀ q, p q = true ↔ Proc k f L i 0 q) := hp
            rw [hform]
            clear hform hst hinv hp
            by_cases hlt3 : i < L.length
            · obtain ⟨u, hu⟩ : ∃ u, L[i] = u := ⟨_, rfl⟩
              have hun : u < j := by rw [← hu]; exact HINV.out.i3 _ (List.getElem_mem hlt3)
              obtain ⟨g, rfl, hg1, hg2, hg3⟩ := own_cell HST.out.ord (by omega)
              have c1 : wr.cell? ⟨g, i, none⟩ = some (.int .i32 (u : Int)) := by
                rw [hg3 i (by omega)]; simp [hlt3, hu]
              obtain ⟨ro, rc, hrow⟩ := own_form (HST.out.adj.2.1 u hun)
              have c2 : wr.cell? ⟨go, u, none⟩ = some (.slice ro (outs f k u).length rc) := by
                rw [HST.out.adj.1.cellAt u (by omega), seg_at _ _ _ _ hun, Nat.zero_add, hrow]
              have HROW : Hid (rows u = .slice ro (outs f k u).length rc) := hrow
              have hol := outs_le f k u
              have HU : Hid (∃ h : i < L.length, L[i] = u) := ⟨hlt3, hu⟩
              clear hu hrow hg3
              go_wp2
              obtain ⟨wo3, hwo3⟩ : ∃ wo : World, wo = wr := ⟨_, rfl⟩
              subst hwo3
              go_loopw [7, 68] (fun ov cv wr => ∃ (L C : List Nat) (c : Nat) (p : Nat → Bool), c ≤ (outs f k u).length ∧ cv = .int .i64 c ∧ (∃ h : i < L.length, L[i] = u) ∧ Inv j k f t L C i c ∧ (∀ q, p q = true ↔ Proc k f L i c q) ∧ St w wr w.heap.size go j k z f t rows ov L p) (fun _ cv _ => (outs f k u).length - (intOf cv).toNat)
              case atStart => exact ⟨L, C, 0, p, Nat.zero_le _, rfl, HU.out, HINV.out, HP.out, HST.out⟩
              case round =>
                clear HST HINV HP HU c1 c2 hg1 hg2 hlt3 hiL hLn
                obtain ⟨L, C, c, p, hc, rfl, ⟨hiL, hu⟩, hinv, hp, hst⟩ := hrel
                have hLn := inv_len hinv
                obtain ⟨ao, oc, hform⟩ := own_form hst.ord
                have HST : Hid (St w wr w.heap.size go j k z f t rows (.slice ao L.length oc) L p) := by rw [← hform]; exact hst
                have HINV : Hid (Inv j k f t L C i c) := hinv
                have HP : Hid (∀ q, p q = true ↔ Proc k f L i c q) := hp
                have HU : Hid (∃ h : i < L.length, L[i] = u) := ⟨hiL, hu⟩
                rw [hform]
                clear hform hst hinv hp hu
                by_cases hlt4 : c < (outs f k u).length
                · obtain ⟨_, hu⟩ := HU.out
                  obtain ⟨j0, hj0⟩ : ∃ j0, (outs f k u)[c] = j0 := ⟨_, rfl⟩
                  obtain ⟨hj0m, hfj, hpj, hq⟩ := step_q HINV.out hiL hu hlt4 hj0 HP.out
                  obtain ⟨_, _, q3, q4⟩ := HZ.out j0 hj0m
                  have et : t j0 = (z (j0 * 3 + 1)).toNat := by rw [HT.out]
                  have ev : z (j0 * 3 + 1) = (t j0 : Int) := by omega
                  have hvn : t j0 < j := by omega
                  have hrow := HST.out.adj.2.1 u hun
                  rw [HROW.out] at hrow
                  obtain ⟨g, hro, hg1, hg2, hg3⟩ := own_cell hrow (by omega)
                  subst hro
                  have e0 : wr.cell? ⟨g, c * 3, none⟩ = some (.int .i32 (z (j0 * 3))) := by
                    rw [hg3 (c * 3) (by omega)]; have := flat_at z (outs f k u) c hlt4 0 (by omega); rw [hj0] at this; exact this
                  have e1 : wr.cell? ⟨g, c * 3 + 1, none⟩ = some (.int .i32 (t j0 : Int)) := by
                    rw [hg3 (c * 3 + 1) (by omega)]; have := flat_at z (outs f k u) c hlt4 1 (by omega); rw [hj0, ev] at this; exact this
                  have e2 : wr.cell? ⟨g, c * 3 + 2, none⟩ = some (.int .i32 (z (j0 * 3 + 2))) := by
                    rw [hg3 (c * 3 + 2) (by omega)]; have := flat_at z (outs f k u) c hlt4 2 (by omega); rw [hj0] at this; exact this
                  obtain ⟨X, hX⟩ : ∃ X : Nat, X = cntB (fun j => decide (t j = t j0) && !p j) k := ⟨_, rfl⟩
                  have hXk : X ≤ k := by rw [hX]; exact cntB_le _ _
                  have hdec := (inF_dec (t := t) hj0m hpj (q := fun j => p j || decide (j = j0)) (fun j => rfl) j).2
                  rw [← hX] at hdec
                  have hX1 : 1 ≤ X := by omega
                  have HX : Hid (X = cntB (fun j => decide (t j = t j0) && !p j) k) := hX
                  have c3 : wr.cell? ⟨w.heap.size, t j0, none⟩ = some (.int .i32 (X : Int)) := by rw [HST.out.inn.cellAt (t j0) (by omega), seg_at _ _ _ _ hvn, Nat.zero_add, hX]; rfl
                  have c4 := HST.out.inn.frozenAt (t j0)
                  have hsz : w.heap.size < wr.heap.size := World.block_lt_of_cell? wr _ c3
                  have hD := HST.out.dec hj0m hpj (q := fun j => p j || decide (j = j0)) (fun j => rfl)
                  rw [← hX] at hD
                  have HD : Hid (St w (wr.setCell ⟨w.heap.size, t j0, none⟩ (.int .i32 ((X : Int) - 1))) w.heap.size go j k z f t rows (.slice ao L.length oc) L (fun j => p j || decide (j = j0))) := hD
                  have HQ : Hid (∀ j, (p j || decide (j = j0)) = true ↔ Proc k f L i (c + 1) j) := hq
                  have HJ : Hid ((outs f k u)[c] = j0) := hj0
                  have HDEC : Hid (((cntB (fun j => decide (t j = t j0) && !(p j || decide (j = j0))) k : Nat) : Int) = (X : Int) - 1) := hdec
                  clear hq hj0 hdec hD hX hrow hg3 ev et q3 q4 hfj hpj hu HP HST HROW
                  by_cases hXe : X = 1
                  · have hXe' : ((X : Int) - 1 == 0) = true := by simp; omega
                    have HXE : Hid (X = 1) := hXe
                    clear hXe
                    go_wp2_with (at_builtin; refine wpList_append_lies _ rfl _ _ 28 rfl w.heap.size 21 i0 (.int .i32 0) 1 4 Try.underlying28 hi hz0 hz1 hz2 rfl (by decide) (.slice ao L.length oc) L.length _ rfl ((HD.out.alloc _).ord.alloc _) ⟨wr.heap.size + 1, 0, none⟩ 1 1 [.int .i32 (t j0 : Int)] rfl rfl (cell_one_at _ _ _ _ (by simp)) (one_i32 _) (by omega) (by unfold maxLen; omega) (by omega) (by simp; omega) (wr.heap.size + 2) (by simp) ?_)
                    intro g' cap' w3 hown3 hgrow3 hat3 hlt3
                    have HP3 : Hid (St w w3 w.heap.size go j k z f t rows (.slice (some ⟨g', 0, none⟩) (L.length + 1) cap') (L ++ [t j0]) (fun j => p j || decide (j = j0))) :=
                      (HD.out.alloc _).push hown3 hgrow3 (by rcases hat3 with q | q; exact .inl q; right; rw [q]; simp)
                    clear hown3 hgrow3 hat3 hlt3 HD c3 c4 e0 e1 e2
                    go_wp2
                    go_roundw
                    case rel =>
                      obtain ⟨_, hu⟩ := HU.out
                      have hz0' : cntB (fun j => decide (t j = t j0) && !(p j || decide (j = j0))) k = 0 := by have := HDEC.out; have := HXE.out; omega
                      obtain ⟨h1, h2⟩ := step_list HINV.out hiL hu hlt4 HJ.out hvn HQ.out hz0'
                      have hu' : ∃ h : i < (L ++ [t j0]).length, (L ++ [t j0])[i] = u := ⟨by simp; omega, by rw [List.getElem_append_left hiL]; exact hu⟩
                      have hlen : (L ++ [t j0]).length = L.length + 1 := by simp
                      first
                        | exact ⟨L ++ [t j0], C ++ [j0], c + 1, _, by omega, by go_num, hu', h1, h2, HP3.out⟩
                        | ((repeat apply Exists.intro); exact ⟨⟨L ++ [t j0], C ++ [j0], c + 1, _, by omega, by go_num, hu', h1, h2, HP3.out⟩, rfl⟩)
                    case measure => simp [intOf]; omega
                  · have hXe' : ((X : Int) - 1 == 0) = false := by simp; omega
                    go_wp2
                    go_roundw
                    case rel =>
                      obtain ⟨_, hu⟩ := HU.out
                      have hz0' : cntB (fun j => decide (t j = t j0) && !(p j || decide (j = j0))) k ≠ 0 := by have := HDEC.out; omega
                      have h1 := step_wait HINV.out hiL hu hlt4 HJ.out HQ.out hz0'
                      exact ⟨L, C, c + 1, _, by omega, by go_num, ⟨hiL, hu⟩, h1, HQ.out, HD.out.alloc _⟩
                    case measure => simp [intOf]; omega
                · obtain rfl : c = (outs f k u).length := by omega
                  go_wp2
                  go_roundw
                  case rel =>
                    obtain ⟨_, hu⟩ := HU.out
                    obtain ⟨h1, p', h2, h3⟩ := step_next HINV.out hiL hu HP.out
                    exact ⟨L, C, i + 1, p', by omega, by go_num, h1, h2, HST.out.congr h3⟩
                  case measure => simp [intOf]; omega
            · obtain rfl : i = L.length := by omega
              have c9 : wr.cell? ⟨G, 1, none⟩ = some (.slice Ra j cR) := by rw [grown_cell HST.out.gr hG (by simp)]; exact HR.out
              go_wp2
              go_quiet (fail)
              go_wp2
              go_ret2
              exact ⟨ao, oc, L, C, (show Ending.returned (.tuple #[.slice ao L.length oc, .bool ((L.length : Int) == (j : Int))]) = _ by rw [beq_nat]), own_drewN HST.out.ord _, inv_fin HINV.out, grown_drewN HST.out.gr _⟩
end Go.Proofs.Qxb6605286a
