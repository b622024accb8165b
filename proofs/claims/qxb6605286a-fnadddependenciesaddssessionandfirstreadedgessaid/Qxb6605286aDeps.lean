/-
  (*graph).addDependencies.
-/
import Derived.Test.Qxb6605286aAdd
namespace Go.Proofs.Qxb6605286a
open Go.RowKit

theorem Cells.bel {w w' : World} {ao : Option Addr} {N : Nat} {f : Nat → Value} (h : Cells w ao N f) (hb : Below w.heap.size w w') : Cells w' ao N f := h.mono (below_grown hb) (by simp)
theorem RowsIn.bel {w w' : World} {R : Nat} {rows : Nat → Value} {l : Nat → Nat} {D : Nat → Nat → T4} {lo : Nat} (h : RowsIn w R rows l D lo) (hb : Below w.heap.size w w') : RowsIn w' R rows l D lo := h.mono (below_grown hb) (fun _ hb => nomatch hb)
theorem cells_of_map {w : World} {base : Nat} {ao : Option Addr} {c n : Nat} {L : List Int} (hn : n = L.length) (h : w.ownsRow base 21 1 (.slice ao n c) n (L.map (Value.int .i32))) : Cells w ao L.length (fun j => .int .i32 (L.getD j 0)) := by
  subst hn
  have e : L.map (Value.int .i32) = seg (fun j => .int .i32 (L.getD j 0)) 0 (L.length * 1) := by
    apply List.ext_getElem?
    intro j
    rw [Nat.mul_one]
    by_cases hj : j < L.length
    · rw [seg_at _ _ _ _ hj, Nat.zero_add]
      simp [List.getD, hj]
    · rw [seg_out _ _ _ _ (by omega)]
      simp; omega
  rw [e] at h
  have := cells_of_own h
  rwa [Nat.mul_one] at this
theorem Try.info21d : (Try.prog.info? 21).map (fun i => (i.zero, i.size, i.bytes)) = some (some (.int .i32 0), 1, 4) := by kernel_rfl
theorem one32 (c : Int) : ∀ u ∈ [Value.int .i32 c], u.oneCell' = true := by intro u hu; simp at hu; subst hu; rfl
theorem gs_drewN {w : World} {B G k : Nat} {v : Value} {xs : List Value} {E : Nat → T3} {ne : Nat} {Q : Nat → T4} {nr : Nat} (h : GS w B G v k xs E ne Q nr) (q : Nat) : GS (w.drewN q) B G v k xs E ne Q nr :=
  h.grown ⟨rfl, rfl, rfl, Nat.le_refl _, fun _ _ _ => rfl⟩
theorem fr_drewN (B G : Nat) (w : World) (q : Nat) : Fr B G w (w.drewN q) := ⟨⟨rfl, rfl, rfl, Nat.le_refl _, fun _ _ => rfl⟩, fun _ _ _ => rfl⟩

theorem from_all {w W w3 : World} {B G k : Nat} {v : Value} {xs ys : List Value} {ev rv : Value} {E : Nat → T3} {ne : Nat} {Q : Nat → T4} {nr g cap N : Nat} (hg : W.grownBy w3 v.ownBlock) (hW : w.grownBy W none) (hN : W.heap.size = N) (h : GSx w B G v k xs ev rv E ne Q nr)
    (ho : w3.ownsRow B 21 1 (.slice (some ⟨g, 0, none⟩) (k + 1) cap) (k + 1) ys) (hat : v.ownBlock = some g ∨ g = N) : GS w3 B G (.slice (some ⟨g, 0, none⟩) (k + 1) cap) (k + 1) ys E ne Q nr ∧ Fr B G w w3 := by
  subst hN
  have h2 := h.grown hW
  have h3 := from_push h2 hg ho hat
  exact ⟨⟨_, _, h3.1⟩, (h.fr hW).trans h3.2⟩
theorem box_cell {w w3 : World} {cs : List Value} {t : TypeId} {Y : Obj} {row : Option Nat} (hg : ((w.alloc (.cells cs.toArray t)).alloc Y).grownBy w3 row) (hrow : ∀ b, row = some b → b < w.heap.size) (j : Nat) : w3.cell? ⟨w.heap.size, j, none⟩ = cs[j]? := by
  rw [grown_cell hg (by simp; omega) (fun e => by have := hrow _ e.symm; omega), World.cell?_alloc_lt _ _ _ (by simp)]
  rw [cell_of_row _ _ _ _ t (0, 0) (heap_alloc_new w _)]
  simp

abbrev frm (D : Nat → Nat → T4) : Nat → Nat → Int := fun t i => (D t i).2.2.1

set_option maxHeartbeats 4000000 in
set_option maxRecDepth 10000 in
theorem deps_any (w0 w : World) (G n F R m r cR cS cF cD : Nat) (aR aS aF aD : Option Addr) (s f : Nat → Int) (rows : Nat → Value) (l : Nat → Nat) (D : Nat → Nat → T4) (E0 : Nat → T3) (Q0 : Nat → T4)
    (hn : n ≤ 16384) (hF : F ≤ 16384) (hR : R ≤ 16384) (hm : m ≤ 16384) (hr : r ≤ 16384) (hl : ∀ t, t < R → l t ≤ 4096) (htot : tot l R ≤ 65536) (hb : Below w0.heap.size w0 w)
    (g1 : w.cell? ⟨G, 1, none⟩ = some (.slice aR n cR)) (g2 : w.cell? ⟨G, 2, none⟩ = some (.slice aS n cS)) (g3 : w.cell? ⟨G, 3, none⟩ = some (.slice aF F cF)) (g5 : w.cell? ⟨G, 5, none⟩ = some (.slice aD R cD))
    (hS : Cells w0 aS n (fun i => .int .i32 (s i))) (hFC : Cells w0 aF F (fun i => .int .i32 (f i))) (hD : Cells w0 aD R rows) (hrows : RowsIn w0 R rows l D 0)
    (hs : ∀ t, t < n → 0 ≤ s t ∧ s t < F) (hf : ∀ t, t < n → 0 ≤ f (s t).toNat ∧ f (s t).toNat ≤ t ∧ (same s t = true ↔ f (s t).toNat < t))
    (h : GS w w0.heap.size G (.slice none 0 0) 0 [] (endE E0 s D l m n R r) m (endR Q0 D l R r) r) :
    Calls Try.prog 22 #[.pointer (some ⟨G, 0, none⟩)] w fun e w' => e = .returned (.tuple #[]) ∧
      GS w' w0.heap.size G (.slice none 0 0) 0 [] (endE E0 s D l m n R r) (m + (TL s n).length + (RL (frm D) l R).length) (endR Q0 D l R r) (r + (RL (frm D) l R).length) ∧ Fr w0.heap.size G w w' := by
  obtain ⟨i0, hi, hz0, hz1, hz2⟩ := info_parts Try.info21d
  obtain ⟨B, hB⟩ : ∃ B, B = w0.heap.size := ⟨_, rfl⟩
  have HB : Hid (B = w0.heap.size) := hB
  obtain ⟨E, hE⟩ : ∃ E, E = endE E0 s D l m n R r := ⟨_, rfl⟩
  obtain ⟨Q, hQ⟩ : ∃ Q, Q = endR Q0 D l R r := ⟨_, rfl⟩
  rw [← hB, ← hE, ← hQ] at h ⊢
  have HE : Hid (E = endE E0 s D l m n R r) := hE
  have HQ : Hid (Q = endR Q0 D l R r) := hQ
  have HBL : Hid (Below B w0 w) := by rw [hB]; exact hb
  have HS : Hid (Cells w0 aS n (fun i => .int .i32 (s i))) := hS
  have HFC : Hid (Cells w0 aF F (fun i => .int .i32 (f i))) := hFC
  have HD : Hid (Cells w0 aD R rows) := hD
  have HRW : Hid (RowsIn w0 R rows l D 0) := hrows
  have HSB : Hid (∀ t, t < n → 0 ≤ s t ∧ s t < F) := hs
  have HFB : Hid (∀ t, t < n → 0 ≤ f (s t).toNat ∧ f (s t).toNat ≤ t ∧ (same s t = true ↔ f (s t).toNat < t)) := hf
  have HL : Hid (∀ t, t < R → l t ≤ 4096) := hl
  have HTOT : Hid (tot l R ≤ 65536) := htot
  have HG2 : Hid (w.cell? ⟨G, 2, none⟩ = some (.slice aS n cS)) := g2
  have HG3 : Hid (w.cell? ⟨G, 3, none⟩ = some (.slice aF F cF)) := g3
  have HG5 : Hid (w.cell? ⟨G, 5, none⟩ = some (.slice aD R cD)) := g5
  have HGS : Hid (GS w B G (.slice none 0 0) 0 [] E m Q r) := h
  clear hB hE hQ hb hS hFC hD hrows hs hf hl htot g2 g3 g5 h
  go_enter Try.func22, Try.ntmps22
  go_wp2
  go_loopw [14] (fun i wr => ∃ k : Nat, k ≤ n ∧ i = .int .i32 k ∧ GS wr B G (.slice none 0 0) 0 [] E (m + (TL s k).length) Q r ∧ Fr B G w wr) (fun i _ => n - (intOf i).toNat)
  case atStart => exact ⟨0, Nat.zero_le _, rfl, HGS.out, Fr.refl _ _ _⟩
  case round =>
    clear g1 HGS
    obtain ⟨k, hk, rfl, hgs, hfr⟩ := hrel
    have HGS : Hid (GS wr B G (.slice none 0 0) 0 [] E (m + (TL s k).length) Q r) := hgs
    have HFR : Hid (Fr B G w wr) := hfr
    have hTL := TL_le s k
    have HWR : Hid (Below w0.heap.size w0 wr) := (by rw [← HB.out]; exact HBL.out.trans hfr.bel)
    clear hgs hfr
    by_cases hlt : k < n
    · have P := pos_any G k n F cS cF aS aF s f wr hn hF (by rw [HFR.out.oth 2 (by decide) (by decide)]; exact HG2.out) (by rw [HFR.out.oth 3 (by decide) (by decide)]; exact HG3.out) (HS.out.bel HWR.out) (HFC.out.bel HWR.out) hlt (HSB.out k hlt) ⟨(HFB.out k hlt).1, (HFB.out k hlt).2.1⟩
      obtain ⟨y, hy⟩ : ∃ y, y = f (s k).toNat := ⟨_, rfl⟩
      have hfb := HFB.out k hlt
      rw [← hy] at P hfb
      have HP : Hid _ := P
      obtain ⟨y0, y1, y2⟩ := hfb
      clear P hy
      cases hsm : same s k with
      | true =>
        have HSM : Hid (same s k = true) := hsm
        have hyk : ¬ (k : Int) ≤ y := (by have := y2.1 hsm; omega)
        have hyk2 : y < (k : Int) := y2.1 hsm
        have hk0 : 0 < k := by have := y2.1 hsm; omega
        clear hsm y2
        go_wp2_with (first | (go_at_call 26; refine Calls.mono HP.out ?_; rintro e w' ⟨rfl, q, rfl⟩) | (go_at_call 27; refine (add_sess B G (m + (TL s k).length) r 0 (.slice none 0 0) [] E Q ((k : Int) - 1) k 0 0 0 _ (by omega) (by rw [HE.out]; exact endE_sess HSM.out hlt) (gs_drewN HGS.out _)).mono ?_; rintro e w' ⟨rfl, hgs2, hfr2⟩; have HGS2 : Hid _ := hgs2; have HFR2 : Hid _ := hfr2; clear hgs2 hfr2))
        go_roundw
        case rel =>
          refine ⟨k + 1, by omega, by go_num, ?_, HFR.out.trans ((fr_drewN B G wr _).trans HFR2.out)⟩
          rw [TL_yes HSM.out, List.length_append]; exact HGS2.out
        case measure => simp [intOf]; omega
      | false =>
        have HSM : Hid (same s k = false) := hsm
        have hyk : (k : Int) ≤ y := (by apply Classical.byContradiction; intro hh; have := y2.2 (by omega); rw [hsm] at this; cases this)
        have hyk2 : ¬ y < (k : Int) := (by omega)
        clear hsm y2
        go_wp2_with (go_at_call 26; refine Calls.mono HP.out ?_; rintro e w' ⟨rfl, q, rfl⟩)
        go_roundw
        case rel =>
          refine ⟨k + 1, by omega, by go_num, ?_, HFR.out.trans (fr_drewN B G wr _)⟩
          rw [TL_no HSM.out]; exact gs_drewN HGS.out _
        case measure => simp [intOf]; omega
    · obtain rfl : k = n := by omega
      obtain ⟨wo, hwo⟩ : ∃ wo : World, wo = wr := ⟨_, rfl⟩
      subst hwo
      have g5 : wo.cell? ⟨G, 5, none⟩ = some (.slice aD R cD) := by rw [HFR.out.oth 5 (by decide) (by decide)]; exact HG5.out
      clear HWR
      go_wp2
      go_loopw [33] (fun i wr => ∃ t : Nat, t ≤ R ∧ i = .int .i64 t ∧ GS wr B G (.slice none 0 0) 0 [] E (m + (TL s k).length + (RL (frm D) l t).length) Q (r + (RL (frm D) l t).length) ∧ Fr B G w wr) (fun i _ => R - (intOf i).toNat)
      case atStart => exact ⟨0, Nat.zero_le _, rfl, HGS.out, HFR.out⟩
      case round =>
        clear HGS HFR g5
        obtain ⟨t, ht, rfl, hgs, hfr⟩ := hrel
        have HGS : Hid (GS wr B G (.slice none 0 0) 0 [] E (m + (TL s k).length + (RL (frm D) l t).length) Q (r + (RL (frm D) l t).length)) := hgs
        have HFR : Hid (Fr B G w wr) := hfr
        have HWR : Hid (Below w0.heap.size w0 wr) := (by rw [← HB.out]; exact HBL.out.trans hfr.bel)
        clear hgs hfr
        by_cases hlt2 : t < R
        · obtain ⟨b, off, ex, hb, hcl⟩ := (HD.out.bel HWR.out).at (by omega)
          subst ex
          obtain ⟨ak, ck, hrk, _, hck, _⟩ := HRW.out t hlt2
          have HCK : Hid (Cells w0 ak (l t * 4) (dF (D t))) := hck
          have c0 : wr.cell? ⟨b, off + t, none⟩ = some (.slice ak (l t) ck) := by rw [hcl t hlt2, hrk]
          have hlt4 := HL.out t hlt2
          have hRLt := RL_le (frm D) l t
          have htm := tot_mono l (show t + 1 ≤ R from hlt2)
          have htt : tot l (t + 1) = tot l t + l t := rfl
          have htR := HTOT.out
          obtain ⟨lk, hlk⟩ : ∃ lk, lk = l t := ⟨_, rfl⟩
          have HLK : Hid (lk = l t) := hlk
          rw [← hlk] at c0 HCK hlt4 htt
          obtain ⟨q0, hq0⟩ : ∃ q0, q0 = (RL (frm D) l t).length := ⟨_, rfl⟩
          have HQ0 : Hid (q0 = (RL (frm D) l t).length) := hq0
          rw [← hq0] at HGS hRLt
          have hbnd : q0 + lk ≤ 65536 := by omega
          clear hcl hrk hck hlk hq0 htm htt htR hRLt
          go_wp2
          go_loopw [5, 40] (fun v i wi => ∃ j : Nat, j ≤ lk ∧ i = .int .i64 j ∧ GS wi B G v (firsts (frm D t) j).length (((firsts (frm D t) j).map (frm D t)).map (Value.int .i32)) E (m + (TL s k).length + (q0 + (firsts (frm D t) j).length)) Q (r + (q0 + (firsts (frm D t) j).length)) ∧ Fr B G w wi) (fun _ i _ => lk - (intOf i).toNat)
          case atStart => exact ⟨0, Nat.zero_le _, rfl, HGS.out, HFR.out⟩
          case round =>
            clear HGS HFR HWR c0
            obtain ⟨j, hj, rfl, hgs, hfr⟩ := hrel
            obtain ⟨L, hL⟩ : ∃ L, L = (firsts (frm D t) j).map (frm D t) := ⟨_, rfl⟩
            obtain ⟨nv, hnv⟩ : ∃ nv, nv = (firsts (frm D t) j).length := ⟨_, rfl⟩
            have HLL : Hid (nv = L.length) := (by rw [hL, hnv, List.length_map]; exact rfl)
            rw [← hL, ← hnv] at hgs
            have HL2 : Hid (L = (firsts (frm D t) j).map (frm D t)) := hL
            have HNV : Hid (nv = (firsts (frm D t) j).length) := hnv
            have hnvj : nv ≤ j := by rw [hnv]; exact firsts_le _ _
            have HWR : Hid (Below w0.heap.size w0 wr) := (by rw [← HB.out]; exact HBL.out.trans hfr.bel)
            have HFR : Hid (Fr B G w wr) := hfr
            have HGS : Hid (GS wr B G u5 nv (L.map (Value.int .i32)) E (m + (TL s k).length + (q0 + nv)) Q (r + (q0 + nv))) := hgs
            obtain ⟨ev, rv, hx⟩ := hgs
            obtain ⟨av, cv, hv⟩ : ∃ av cv, u5 = .slice av nv cv := by
              rcases hx.ov.2 with ⟨e1, e2⟩ | ⟨g, cap, cur, e1, _⟩
              · rw [e2]; exact ⟨_, _, e1⟩
              · exact ⟨_, _, e1⟩
            subst hv
            have HX : Hid (GSx wr B G (.slice av nv cv) nv (L.map (Value.int .i32)) ev rv E (m + (TL s k).length + (q0 + nv)) Q (r + (q0 + nv))) := hx
            have hBs : B ≤ wr.heap.size := hx.le
            have hTL := TL_le s k
            clear hfr hx hL hnv
            by_cases hjl : j < lk
            · obtain ⟨b', off', ex', _, hcl'⟩ := (HCK.out.bel HWR.out).at (by omega)
              subst ex'
              obtain ⟨d0, d1, d2, d3, hd⟩ : ∃ d0 d1 d2 d3, D t j = (d0, d1, d2, d3) := ⟨_, _, _, _, rfl⟩
              have e0 : wr.cell? ⟨b', off' + j * 4, none⟩ = some (.int .i64 d0) := by rw [hcl' (j * 4) (by omega), dF0, hd]
              have e1 : wr.cell? ⟨b', off' + j * 4 + 1, none⟩ = some (.int .i64 d1) := by rw [Nat.add_assoc, hcl' (j * 4 + 1) (by omega), dF1, hd]
              have e2 : wr.cell? ⟨b', off' + j * 4 + 2, none⟩ = some (.int .i32 d2) := by rw [Nat.add_assoc, hcl' (j * 4 + 2) (by omega), dF2, hd]
              have e3 : wr.cell? ⟨b', off' + j * 4 + 3, none⟩ = some (.int .i32 d3) := by rw [Nat.add_assoc, hcl' (j * 4 + 3) (by omega), dF3, hd]
              have HDD : Hid (D t j = (d0, d1, d2, d3)) := hd
              have hcon := newB_contains (frm D t) j
              rw [← HL2.out, show frm D t j = d2 by show (D t j).2.2.1 = d2; rw [hd]] at hcon
              have PC : ∀ X : Obj, Calls Try.prog 28 #[.slice av nv cv, .int .i32 d2] (wr.alloc X) fun e w' => e = .returned (.bool (!newB (frm D t) j)) ∧ wr.alloc X = w' := by
                intro X
                have := contains_any av cv d2 L (wr.alloc X) (by rw [← HLL.out]; omega) (cells_of_map HLL.out (HX.out.ov.alloc X))
                rw [← HLL.out] at this
                rw [hcon, Bool.not_not]
                exact this
              have HPC : Hid (∀ X : Obj, Calls Try.prog 28 #[.slice av nv cv, .int .i32 d2] (wr.alloc X) fun e w' => e = .returned (.bool (!newB (frm D t) j)) ∧ wr.alloc X = w') := PC
              clear hcl' hd hcon PC
              cases hnb : newB (frm D t) j with
              | true =>
                have HNB : Hid (newB (frm D t) j = true) := hnb
                rw [hnb] at HPC
                have HRL : Hid ((RL (frm D) l R)[q0 + nv]? = some (t, j)) := (by rw [HQ0.out, HNV.out]; exact RL_get (frm D) l hlt2 (by rw [← HLK.out]; exact hjl) HNB.out)
                have HEE : Hid (E (m + (TL s k).length + (q0 + nv)) = (d2, (t : Int), ((r + (q0 + nv) : Nat) : Int))) := (by rw [HE.out, endE_read HRL.out, HDD.out]; exact rfl)
                have HQQ : Hid (Q (r + (q0 + nv)) = (1, d0, d1, 0)) := (by rw [HQ.out, endR_read HRL.out, HDD.out]; exact rfl)
                clear hnb
                go_wp2_with (first | (go_at_call 28; refine (HPC.out _).mono ?_; rintro e w' ⟨rfl, rfl⟩) | (at_builtin; refine wpList_append_lies _ rfl _ _ 28 rfl B 21 i0 (.int .i32 0) 1 4 Try.underlying28 hi hz0 hz1 hz2 rfl (by decide) (.slice av nv cv) nv (L.map (Value.int .i32)) rfl ((HX.out.ov.alloc _).alloc _) ⟨wr.heap.size + 1, 0, none⟩ 1 1 [.int .i32 d2] rfl rfl (cells_new (wr.alloc _) [.int .i32 d2] 21 _ (by simp)) (one32 _) (by omega) (by unfold maxLen; omega) (by omega) (by simp; omega) _ rfl ?_))
                intro g cap w3 hown hgrow hat hlt5
                have R3 := from_all hgrow (grown_trans (World.grownBy_alloc _ _ _) (World.grownBy_alloc _ _ _)) (by simp) HX.out hown hat
                have hbx := box_cell (cs := [.int .i64 d0, .int .i64 d1, .int .i32 d2, .int .i32 d3]) hgrow (fun b hb => (HX.out.ov.lt b hb).2)
                have k0 : w3.cell? ⟨wr.heap.size, 0, none⟩ = some (.int .i64 d0) := hbx 0
                have k1 : w3.cell? ⟨wr.heap.size, 1, none⟩ = some (.int .i64 d1) := hbx 1
                have k2 : w3.cell? ⟨wr.heap.size, 2, none⟩ = some (.int .i32 d2) := hbx 2
                have HG3 : Hid _ := R3.1
                have HF3 : Hid _ := R3.2
                clear hown hgrow hat hlt5 R3 hbx e0 e1 e2 e3
                go_wp2_with (go_at_call 27; refine (add_read B G (m + (TL s k).length + (q0 + nv)) (r + (q0 + nv)) (nv + 1) (.slice (some ⟨g, 0, none⟩) (nv + 1) cap) _ E Q d2 t d0 d1 w3 (by omega) (by omega) HEE.out HQQ.out HG3.out).mono ?_; rintro e w' ⟨rfl, hgs4, hfr4⟩; have HGS4 : Hid _ := hgs4; have HFR4 : Hid _ := hfr4; clear hgs4 hfr4)
                go_roundw
                case rel =>
                  have R9 : GS w' B G (.slice (some ⟨g, 0, none⟩) (nv + 1) cap) (firsts (frm D t) (j + 1)).length (((firsts (frm D t) (j + 1)).map (frm D t)).map (Value.int .i32)) E (m + (TL s k).length + (q0 + (firsts (frm D t) (j + 1)).length)) Q (r + (q0 + (firsts (frm D t) (j + 1)).length)) := by
                    rw [firsts_yes HNB.out, List.length_append, List.map_append, List.map_append, ← HL2.out, ← HNV.out]
                    have e : frm D t j = d2 := by show (D t j).2.2.1 = d2; rw [HDD.out]
                    show GS w' B G _ (nv + 1) (List.map (Value.int .i32) L ++ [Value.int .i32 (frm D t j)]) E _ Q _
                    rw [e]
                    exact HGS4.out
                  first
                    | exact ⟨j + 1, by omega, by go_num, R9, HFR.out.trans (HF3.out.trans HFR4.out)⟩
                    | ((repeat apply Exists.intro); exact ⟨⟨j + 1, by omega, by go_num, R9, HFR.out.trans (HF3.out.trans HFR4.out)⟩, rfl⟩)
                case measure => simp [intOf]; omega
              | false =>
                have HNB : Hid (newB (frm D t) j = false) := hnb
                rw [hnb] at HPC
                clear hnb
                go_wp2_with (go_at_call 28; refine (HPC.out _).mono ?_; rintro e w' ⟨rfl, rfl⟩)
                go_roundw
                case rel =>
                  have hga : wr.grownBy (wr.alloc (.cells #[.int .i64 d0, .int .i64 d1, .int .i32 d2, .int .i32 d3] 67)) none := World.grownBy_alloc _ _ _
                  have R9 : GS (wr.alloc (.cells #[.int .i64 d0, .int .i64 d1, .int .i32 d2, .int .i32 d3] 67)) B G (.slice av nv cv) (firsts (frm D t) (j + 1)).length (((firsts (frm D t) (j + 1)).map (frm D t)).map (Value.int .i32)) E (m + (TL s k).length + (q0 + (firsts (frm D t) (j + 1)).length)) Q (r + (q0 + (firsts (frm D t) (j + 1)).length)) := by
                    rw [firsts_no HNB.out, ← HL2.out, ← HNV.out]
                    exact HGS.out.grown hga
                  first
                    | exact ⟨j + 1, by omega, by go_num, R9, HFR.out.trans (HGS.out.fr hga)⟩
                    | ((repeat apply Exists.intro); exact ⟨⟨j + 1, by omega, by go_num, R9, HFR.out.trans (HGS.out.fr hga)⟩, rfl⟩)
                case measure => simp [intOf]; omega
            · obtain rfl : j = lk := by omega
              go_wp2
              go_roundw
              case rel =>
                refine ⟨t + 1, by omega, by go_num, ?_, HFR.out⟩
                rw [RL_len, ← HLK.out, ← HQ0.out, ← HNV.out]
                exact HGS.out.fresh
              case measure => simp [intOf]; omega
        · obtain rfl : t = R := by omega
          go_wp2
          first | go_end0 | (simp only [Exit.inBlock, Exit.then]; refine bodyPost_ret (results_none rfl _ _ _) rfl ?_) | refine bodyPost_ret (results_none rfl _ _ _) rfl ?_
          exact ⟨rfl, HGS.out, HFR.out⟩
end Go.Proofs.Qxb6605286a
