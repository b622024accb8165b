/-
  copyReads: the rows of reads, each in memory of its own.
-/
import Derived.Test.Qxb6605286aSmall
namespace Go.Proofs.Qxb6605286a
open Go.RowKit

theorem Try.info39 : (Try.prog.info? 39).map (fun i => (i.zero, i.size, i.bytes)) = some (some (.slice none 0 0), 1, 24) := by kernel_rfl
theorem Try.info47 : (Try.prog.info? 47).map (fun i => (i.zero, i.size, i.bytes)) = some (some (.agg #[.int .i64 0, .int .i64 0, .int .i32 0, .int .i32 0]), 4, 24) := by kernel_rfl
theorem Try.size47 : (Try.prog.info? 47).map (·.size) = some 4 := by kernel_rfl
theorem made1 (z : Value) (n : Nat) : (madeCells #[z] n).toList = seg (fun _ => z) 0 n := by
  rw [toList_madeCells_one]
  apply List.ext_getElem?
  intro j
  by_cases hj : j < n
  · rw [seg_at _ _ _ _ hj]; simp [hj]
  · rw [seg_out _ _ _ _ (by omega)]; simp; omega

set_option maxHeartbeats 2000000 in
set_option maxRecDepth 10000 in
theorem copyReads_some (x : Addr) (R c : Nat) (rows : Nat → Value) (l : Nat → Nat) (D : Nat → Nat → T4) (w : World) (hR : R ≤ 16384) (hl : ∀ t, t < R → l t ≤ 4096) (hC : Cells w (some x) R rows) (hrows : RowsIn w R rows l D 0) :
    Calls Try.prog 14 #[.slice (some x) R c] w fun e w' => ∃ rows', e = .returned (.slice (some ⟨w.heap.size, 0, none⟩) R R) ∧ Cells w' (some ⟨w.heap.size, 0, none⟩) R rows' ∧ RowsIn w' R rows' l D 0 ∧ w.grownBy w' none := by
  have hnil := fun w a n c n' c' => Lib.run_eql_slice_nil (P := Try.prog) w 37 39 a n c n' c' Try.underlying37
  have hnil2 := fun w a n c n' c' => Lib.run_eql_slice_nil (P := Try.prog) w 39 47 a n c n' c' Try.underlying39
  obtain ⟨i0, hi, hz0, hz1, hz2⟩ := info_parts Try.info39
  obtain ⟨i1, hi1, hy0, hy1, hy2⟩ := info_parts Try.info47
  have HC : Hid (Cells w (some x) R rows) := hC
  have HL : Hid (∀ t, t < R → l t ≤ 4096) := hl
  have HR : Hid (RowsIn w R rows l D 0) := hrows
  clear hC hl hrows
  go_enter Try.func14, Try.ntmps14
  go_wp2_with (at_make; refine wpList_make_full _ rfl _ _ 37 rfl w.heap.size 39 i0 (.slice none 0 0) 1 Try.underlying37 hi hz0 hz1 _ _ _ _ R rfl rfl rfl rfl ?b1 ?b2 ?b3 ?_)
  case b1 => rw [hz2]; omega
  case b2 => unfold maxLen; omega
  case b3 => exact Nat.le_refl _
  intro w1 hown1 hgr1
  have HO1 : Hid (w1.ownsRow w.heap.size 39 1 (.slice (some ⟨w.heap.size, 0, none⟩) R R) R (seg (fun _ => .slice none 0 0) 0 (R * 1))) := by rw [made1] at hown1; rw [Nat.mul_one]; exact hown1
  have HG1 : Hid (w.grownBy w1 none) := hgr1
  clear hown1 hgr1
  go_wp2
  go_loopw [14] (fun i wr => ∃ (k : Nat) (rows' : Nat → Value), k ≤ R ∧ i = .int .i64 k ∧ (∀ t, k ≤ t → rows' t = .slice none 0 0) ∧ wr.ownsRow w.heap.size 39 1 (.slice (some ⟨w.heap.size, 0, none⟩) R R) R (seg rows' 0 (R * 1)) ∧ RowsIn wr k rows' l D (w.heap.size + 1) ∧ w.grownBy wr none) (fun i _ => R - (intOf i).toNat)
  case atStart => exact ⟨0, fun _ => .slice none 0 0, Nat.zero_le _, rfl, fun _ _ => rfl, HO1.out, fun t ht => by omega, HG1.out⟩
  case round =>
    clear HO1 HG1
    obtain ⟨k, rows', hk, rfl, hnl, hown, hri, hgr⟩ := hrel
    have HNL : Hid (∀ t, k ≤ t → rows' t = .slice none 0 0) := hnl
    have HO : Hid (wr.ownsRow w.heap.size 39 1 (.slice (some ⟨w.heap.size, 0, none⟩) R R) R (seg rows' 0 (R * 1))) := hown
    have HRI : Hid (RowsIn wr k rows' l D (w.heap.size + 1)) := hri
    have HG : Hid (w.grownBy wr none) := hgr
    by_cases hlt : k < R
    · obtain ⟨b, off, ex, hb, hcl⟩ := HC.out.at (by omega)
      obtain rfl := Option.some.inj ex
      obtain ⟨ak, ck, hrk, hnk, hck, _⟩ := HR.out k hlt
      have c0 : wr.cell? ⟨b, off + k, none⟩ = some (.slice ak (l k) ck) := by rw [grown_cell hgr hb (by simp), ← hrk]; exact hcl k (by omega)
      have HCK : Hid (Cells w ak (l k * 4) (dF (D k))) := hck
      have hlk := HL.out k hlt
      have hbig : w.heap.size < wr.heap.size := (hown.lt w.heap.size rfl).2
      clear hnl hown hri hgr hcl ex hck hrk
      cases ak with
      | none =>
        obtain ⟨e1, e2⟩ := hnk rfl
        have HL0 : Hid (l k = 0) := e1
        rw [e1, e2] at c0
        clear e1 e2 hnk hlk
        go_wp2
        go_roundw
        case rel =>
          refine ⟨k + 1, rows', by omega, by go_num, fun t ht => HNL.out t (by omega), HO.out, fun t ht => ?_, HG.out⟩
          by_cases e : t = k
          · subst e
            exact ⟨none, 0, by rw [HNL.out t (Nat.le_refl _), HL0.out], fun _ => ⟨HL0.out, rfl⟩, ⟨fun _ => by rw [HL0.out], fun x hx => nomatch hx⟩, fun x hx => nomatch hx⟩
          · exact HRI.out t (by omega)
        case measure => simp [intOf]; omega
      | some y =>
        clear hnk
        obtain ⟨lk, hlk'⟩ : ∃ lk, lk = l k := ⟨_, rfl⟩
        have HLK : Hid (lk = l k) := hlk'
        rw [← hlk'] at HCK c0 hlk
        clear hlk'
        go_wp2_with (at_make; refine wpList_make_full _ rfl _ _ 39 rfl wr.heap.size 47 i1 (.agg #[.int .i64 0, .int .i64 0, .int .i32 0, .int .i32 0]) 4 Try.underlying39 hi1 hy0 hy1 _ _ _ _ lk rfl rfl rfl rfl ?b1 ?b2 ?b3 ?_)
        case b1 => rw [hy2]; omega
        case b2 => unfold maxLen; omega
        case b3 => exact Nat.le_refl _
        intro w2 hown2 hgr2
        have HO2 : Hid (∃ h : Nat → Value, w2.ownsRow wr.heap.size 47 4 (.slice (some ⟨wr.heap.size, 0, none⟩) lk lk) lk (seg h 0 (lk * 4))) := own_fn hown2
        have HG2 : Hid (wr.grownBy w2 none) := hgr2
        have HC0 : Hid (wr.cell? ⟨b, off + k, none⟩ = some (.slice (some y) lk ck)) := c0
        have hbr : b < wr.heap.size := World.block_lt_of_cell? wr _ c0
        have c1 : w2.cell? ⟨b, off + k, none⟩ = some (.slice (some y) lk ck) := by rw [grown_cell hgr2 hbr (by simp)]; exact c0
        clear hown2 hgr2 c0
        go_wp2
        obtain ⟨wq, hwq⟩ : ∃ wq : World, wq = wr := ⟨_, rfl⟩
        subst hwq
        go_loopw [33] (fun i wi => ∃ (j : Nat) (h : Nat → Value), j ≤ lk ∧ i = .int .i64 j ∧ (∀ i, i < j * 4 → h i = dF (D k) i) ∧ wi.ownsRow wq.heap.size 47 4 (.slice (some ⟨wq.heap.size, 0, none⟩) lk lk) lk (seg h 0 (lk * 4)) ∧ wq.grownBy wi none) (fun i _ => lk - (intOf i).toNat)
        case atStart =>
          obtain ⟨h, hh⟩ := HO2.out
          exact ⟨0, h, Nat.zero_le _, rfl, fun i hi => by omega, hh, HG2.out⟩
        case round =>
          clear HO2 HG2 c1
          obtain ⟨j, h, hj, rfl, hhf, hown3, hgr3⟩ := hrel
          have HO3 : Hid (wr.ownsRow wq.heap.size 47 4 (.slice (some ⟨wq.heap.size, 0, none⟩) lk lk) lk (seg h 0 (lk * 4))) := hown3
          have HG3 : Hid (wq.grownBy wr none) := hgr3
          have HF : Hid (∀ i, i < j * 4 → h i = dF (D k) i) := hhf
          have c1 : wr.cell? ⟨b, off + k, none⟩ = some (.slice (some y) lk ck) := by rw [grown_cell hgr3 hbr (by simp)]; exact HC0.out
          by_cases hjl : j < lk
          · obtain ⟨b', off', ex', hb', hcl'⟩ := HCK.out.at (by omega)
            obtain rfl := Option.some.inj ex'
            have hgw := grown_trans HG.out hgr3
            have hsrc : wr.rangeAt b' (off' + j * 4) (seg (dF (D k)) (j * 4) 4) := by
              intro i v hv
              obtain ⟨hi4, rfl⟩ := seg_get hv
              rw [Nat.add_assoc, grown_cell hgw hb' (by simp)]
              exact hcl' (j * 4 + i) (by omega)
            have hdst : wr.there wq.heap.size (j * 4) 4 := own_there hown3 (by omega)
            have hones : ((seg (dF (D k)) (j * 4) 4).toArray).all (·.oneCell') = true := all_oneCell_toArray (seg_one fun i _ => dF_one _ _)
            have HSRC : Hid (wr.rangeAt b' (off' + j * 4) (seg (dF (D k)) (j * 4) 4)) := hsrc
            have HONE : Hid (((seg (dF (D k)) (j * 4) 4).toArray).all (·.oneCell') = true) := hones
            obtain ⟨S, hS⟩ : ∃ S, S = seg (dF (D k)) (j * 4) 4 := ⟨_, rfl⟩
            have HS : Hid (S = seg (dF (D k)) (j * 4) 4) := hS
            have HSL : Hid (S.length = 4) := (show S.length = 4 by rw [hS, seg_len])
            rw [← hS] at HSRC HONE
            have eSz : S.toArray.size = 4 := HSL.out
            have HDS : Hid (wr.there wq.heap.size (j * 4) S.toArray.size) := (by rw [eSz]; exact hdst)
            have HSZ : Hid ((Try.prog.info? 47).map (·.size) = some S.toArray.size) := (by rw [eSz]; exact Try.size47)
            clear eSz hown3 hgr3 hhf hcl' hsrc hdst hones ex' hS hgw
            go_wp2_with (first | (refine wpList_load_mid rfl 47 _ rfl b' (off' + j * 4) rfl S _ HSRC.out Try.underlying47 rfl HSZ.out ?_) | (refine wpList_store_mid rfl 47 _ _ rfl wq.heap.size (j * 4) S.toArray rfl rfl HDS.out HSZ.out HONE.out ?_))
            go_roundw
            case rel =>
              obtain ⟨g1, g2⟩ := own_storeMany (seg (dF (D k)) (j * 4) 4) (j * 4) HO3.out
              rw [setMany_seg] at g1
              have g3 := grown_own HG3.out g2 (Nat.le_refl _)
              rw [← HS.out] at g1 g3
              refine ⟨j + 1, _, by omega, by go_num, fun i hi => ?_, by simpa using g1, by simpa using g3⟩
              by_cases c : j * 4 ≤ i
              · rw [if_pos (by omega)]
              · rw [if_neg (by omega)]; exact HF.out i (by omega)
            case measure => simp [intOf]; omega
          · obtain rfl : j = lk := by omega
            have hO' := HO.out
            have d0 : wr.cell? ⟨w.heap.size, k, none⟩ = some (rows' k) := by
              rw [grown_cell hgr3 hbig (by simp), hO'.cellAt _ (by omega), seg_at _ _ _ _ (by omega), Nat.zero_add]
            have hO3 : wr.ownsRow w.heap.size 39 1 (.slice (some ⟨w.heap.size, 0, none⟩) R R) R (seg rows' 0 (R * 1)) := hO'.kept hgr3 (.inr (by simp [Value.ownBlock]))
            have e0 := hO3.frozenAt k
            have HOX : Hid (wr.ownsRow w.heap.size 39 1 (.slice (some ⟨w.heap.size, 0, none⟩) R R) R (seg rows' 0 (R * 1))) := hO3
            clear hown3 hgr3 hhf c1 hO' hO3
            go_wp2
            go_roundw
            case rel =>
              obtain ⟨s1, s2⟩ := HOX.out.stored k (.slice (some ⟨wq.heap.size, 0, none⟩) j j)
              rw [seg_set] at s1
              have hrows2 : RowsIn _ k rows' l D (w.heap.size + 1) := (HRI.out.mono HG3.out (fun b hb => nomatch hb)).mono s2 (fun b hb => by injection hb; omega)
              refine ⟨k + 1, _, by omega, by go_num, fun t ht => ?_, s1, hrows2.push (ao := some ⟨wq.heap.size, 0, none⟩) (c := j) _ (by rw [← HLK.out]) (fun h => nomatch h) ?_ (fun x hx => by cases hx; exact hbig), grown_own (grown_trans HG.out HG3.out) s2 (Nat.le_refl _)⟩
              · rw [if_neg (by omega)]; exact HNL.out t (by omega)
              · rw [← HLK.out]
                have q := cells_of_own HO3.out
                have q2 : Cells wr (some ⟨wq.heap.size, 0, none⟩) (j * 4) (dF (D k)) := ⟨(fun h => nomatch h), fun x hx i hi => by rw [q.2 x hx i hi, HF.out i hi]⟩
                exact q2.mono s2 (fun x hx e => by cases hx; injection e with e; simp at e; omega)
            case measure => simp [intOf]; omega
    · obtain rfl : k = R := by omega
      clear hnl hown hri hgr
      go_wp2
      go_ret
      refine ⟨rows', rfl, ?_, HRI.out.lower (Nat.zero_le _), HG.out⟩
      have q := cells_of_own HO.out
      rwa [Nat.mul_one] at q

theorem copyReads_nil (w : World) : Calls Try.prog 14 #[.slice none 0 0] w fun e w' => e = .returned (.slice none 0 0) ∧ w' = w := by
  have hnil := fun w a n c n' c' => Lib.run_eql_slice_nil (P := Try.prog) w 37 39 a n c n' c' Try.underlying37
  go_enter Try.func14, Try.ntmps14
  go_wp2
  go_ret
  exact ⟨rfl, rfl⟩

theorem copyReads_any (ao : Option Addr) (R c : Nat) (rows : Nat → Value) (l : Nat → Nat) (D : Nat → Nat → T4) (w : World) (hR : R ≤ 16384) (hl : ∀ t, t < R → l t ≤ 4096) (hnil : ao = none → R = 0 ∧ c = 0) (hC : Cells w ao R rows) (hrows : RowsIn w R rows l D 0) :
    Calls Try.prog 14 #[.slice ao R c] w fun e w' => ∃ ao' c' rows', e = .returned (.slice ao' R c') ∧ Cells w' ao' R rows' ∧ RowsIn w' R rows' l D 0 ∧ w.grownBy w' none := by
  cases ao with
  | none =>
    obtain ⟨rfl, rfl⟩ := hnil rfl
    refine (copyReads_nil w).mono ?_
    rintro e w' ⟨rfl, rfl⟩
    exact ⟨none, 0, rows, rfl, hC, hrows, grown_refl _ _⟩
  | some x =>
    refine (copyReads_some x R c rows l D w hR hl hC hrows).mono ?_
    rintro e w' ⟨rows', rfl, h2, h3, h4⟩
    exact ⟨_, R, rows', rfl, h2, h3, h4⟩
end Go.Proofs.Qxb6605286a
