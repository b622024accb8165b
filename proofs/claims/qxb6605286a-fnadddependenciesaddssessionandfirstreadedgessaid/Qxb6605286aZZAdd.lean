/-
  ZZAddDependencies.
-/
import Derived.Test.Qxb6605286aDeps
import Derived.Test.Qxb6605286aIn
import Derived.Test.Qxb6605286aOut
namespace Go.Proofs.Qxb6605286a
open Go.RowKit

theorem Try.info65 : (Try.prog.info? 65).map (fun i => (i.zero, i.size, i.bytes)) = some (some (.slice none 0 0), 1, 24) := by kernel_rfl
theorem Try.info67 : (Try.prog.info? 67).map (fun i => (i.zero, i.size, i.bytes)) = some (some (.agg #[.int .i64 0, .int .i64 0, .int .i32 0, .int .i32 0]), 4, 24) := by kernel_rfl
theorem Try.info45z : (Try.prog.info? 45).map (fun i => (i.zero, i.size, i.bytes)) = some (some (.agg #[.int .i64 0, .int .i64 0, .int .i64 0, .int .i32 0]), 4, 32) := by kernel_rfl
theorem own_low {w : World} {base base' : Nat} {e : TypeId} {size : Nat} {v : Value} {n : Nat} {xs : List Value} (h : w.ownsRow base e size v n xs) (hb : base' ≤ base) : w.ownsRow base' e size v n xs := by
  refine ⟨h.1, ?_⟩
  rcases h.2 with q | ⟨g, cap, cur, e1, e2, r⟩
  · exact .inl q
  · exact .inr ⟨g, cap, cur, e1, by omega, r⟩
theorem grown_row {w w1 w2 : World} {row : Option Nat} (h : w.grownBy w1 none) (h2 : w1.grownBy w2 row) : w.grownBy w2 row :=
  ⟨h2.os.trans h.os, h2.tape.trans h.tape, h2.output.trans h.output, Nat.le_trans h.size h2.size, fun k hk hne => by
    rw [h2.block k (Nat.lt_of_lt_of_le hk h.size) hne]; exact h.block k hk (by simp)⟩
/-- A fresh block turned: to the elder world nothing. -/
theorem grown_fresh {w w1 w2 : World} {row : Option Nat} {g : Nat} (h : w.grownBy w1 row) (h2 : w1.grownBy w2 (some g)) (hg : w.heap.size ≤ g) : w.grownBy w2 row :=
  ⟨h2.os.trans h.os, h2.tape.trans h.tape, h2.output.trans h.output, Nat.le_trans h.size h2.size, fun k hk hne => by
    rw [h2.block k (Nat.lt_of_lt_of_le hk h.size) (by intro e; injection e; omega)]; exact h.block k hk hne⟩

theorem eF_congr {E E' : Nat → T3} {m : Nat} (h : ∀ j, j < m → E j = E' j) : seg (eF E) 0 (m * 3) = seg (eF E') 0 (m * 3) :=
  seg_congr fun j hj => by rw [Nat.zero_add]; unfold eF; rw [h (j / 3) (by omega)]
theorem rF_congr {Q Q' : Nat → T4} {m : Nat} (h : ∀ j, j < m → Q j = Q' j) : seg (rF Q) 0 (m * 4) = seg (rF Q') 0 (m * 4) :=
  seg_congr fun j hj => by rw [Nat.zero_add]; unfold rF; rw [h (j / 4) (by omega)]

set_option maxHeartbeats 4000000 in
set_option maxRecDepth 10000 in
theorem zzAdd_any (w : World) (n F R m r c0 c1 c2 c3 c4 c5 : Nat) (a0 a1 a2 a3 a4 a5 : Option Addr) (zr : Nat → Int) (s f : Nat → Int) (rows : Nat → Value) (l : Nat → Nat) (D : Nat → Nat → T4) (E0 : Nat → T3) (Q0 : Nat → T4)
    (hn : n ≤ 16384) (hF : F ≤ 16384) (hR : R ≤ 16384) (hm : m ≤ 16384) (hr : r ≤ 16384) (hl : ∀ t, t < R → l t ≤ 4096) (htot : tot l R ≤ 65536)
    (h0 : Cells w a0 (n * 2) (fun i => .int .i64 (zr i))) (h1 : Cells w a1 n (fun i => .int .i32 (s i))) (h2 : Cells w a2 F (fun i => .int .i32 (f i))) (h3 : Cells w a3 R rows) (hrows : RowsIn w R rows l D 0)
    (h4 : Cells w a4 (m * 3) (eF E0)) (h5 : Cells w a5 (r * 4) (rF Q0))
    (hs : ∀ t, t < n → 0 ≤ s t ∧ s t < F) (hf : ∀ t, t < n → 0 ≤ f (s t).toNat ∧ f (s t).toNat ≤ t ∧ (same s t = true ↔ f (s t).toNat < t)) :
    Calls Try.prog 16 #[.slice a0 n c0, .slice a1 n c1, .slice a2 F c2, .slice a3 R c3, .slice a4 m c4, .slice a5 r c5] w fun e w' => ∃ aE cE aR cR,
      e = .returned (.tuple #[.slice aE (m + (TL s n).length + (RL (frm D) l R).length) cE, .slice aR (r + (RL (frm D) l R).length) cR]) ∧
      Cells w' aE ((m + (TL s n).length + (RL (frm D) l R).length) * 3) (eF (endE E0 s D l m n R r)) ∧ Cells w' aR ((r + (RL (frm D) l R).length) * 4) (rF (endR Q0 D l R r)) ∧ w.grownBy w' none := by
  obtain ⟨i5, hi5, ha0, ha1, ha2⟩ := info_parts Try.info65
  obtain ⟨i7, hi7, hb0, hb1, hb2⟩ := info_parts Try.info67
  obtain ⟨i70, hi70, hc0, hc1, hc2⟩ := info_parts Try.info70
  obtain ⟨i45, hi45, hd0, hd1, hd2⟩ := info_parts Try.info45z
  have HC0 : Hid (Cells w a0 (n * 2) (fun i => .int .i64 (zr i))) := h0
  have HC1 : Hid (Cells w a1 n (fun i => .int .i32 (s i))) := h1
  have HC2 : Hid (Cells w a2 F (fun i => .int .i32 (f i))) := h2
  have HC3 : Hid (Cells w a3 R rows) := h3
  have HC4 : Hid (Cells w a4 (m * 3) (eF E0)) := h4
  have HC5 : Hid (Cells w a5 (r * 4) (rF Q0)) := h5
  have HRW : Hid (RowsIn w R rows l D 0) := hrows
  have HSB : Hid (∀ t, t < n → 0 ≤ s t ∧ s t < F) := hs
  have HFB : Hid (∀ t, t < n → 0 ≤ f (s t).toNat ∧ f (s t).toNat ≤ t ∧ (same s t = true ↔ f (s t).toNat < t)) := hf
  have HL : Hid (∀ t, t < R → l t ≤ 4096) := hl
  have HTOT : Hid (tot l R ≤ 65536) := htot
  clear h0 h1 h2 h3 h4 h5 hrows hs hf hl htot
  go_enter Try.func16, Try.ntmps16
  go_wp2_with (at_make; refine wpList_make_full _ rfl _ _ 57 rfl w.heap.size 65 i5 (.slice none 0 0) 1 Try.underlying57 hi5 ha0 ha1 _ _ _ _ R rfl rfl rfl rfl ?b1 ?b2 ?b3 ?_)
  case b1 => rw [ha2]; omega
  case b2 => unfold maxLen; omega
  case b3 => exact Nat.le_refl _
  intro w1 hown1 hgr1
  have HO1 : Hid (w1.ownsRow w.heap.size 65 1 (.slice (some ⟨w.heap.size, 0, none⟩) R R) R (seg (fun _ => .slice none 0 0) 0 (R * 1))) := by rw [made1] at hown1; rw [Nat.mul_one]; exact hown1
  have HG1 : Hid (w.grownBy w1 none) := hgr1
  clear hown1 hgr1
  go_wp2
  go_loopw [30] (fun i wr => ∃ (k : Nat) (rows' : Nat → Value), k ≤ R ∧ i = .int .i64 k ∧ wr.ownsRow w.heap.size 65 1 (.slice (some ⟨w.heap.size, 0, none⟩) R R) R (seg rows' 0 (R * 1)) ∧ RowsIn wr k rows' l D (w.heap.size + 1) ∧ w.grownBy wr none) (fun i _ => R - (intOf i).toNat)
  case atStart => exact ⟨0, fun _ => .slice none 0 0, Nat.zero_le _, rfl, HO1.out, fun t ht => by omega, HG1.out⟩
  case round =>
    clear HO1 HG1
    obtain ⟨k, rows', hk, rfl, hown, hri, hgr⟩ := hrel
    have HO : Hid (wr.ownsRow w.heap.size 65 1 (.slice (some ⟨w.heap.size, 0, none⟩) R R) R (seg rows' 0 (R * 1))) := hown
    have HRI : Hid (RowsIn wr k rows' l D (w.heap.size + 1)) := hri
    have HG : Hid (w.grownBy wr none) := hgr
    by_cases hlt : k < R
    · obtain ⟨b, off, ex, hb, hcl⟩ := HC3.out.at (by omega)
      subst ex
      obtain ⟨ak, ck, hrk, _, hck, _⟩ := HRW.out k hlt
      have c0 : wr.cell? ⟨b, off + k, none⟩ = some (.slice ak (l k) ck) := by rw [grown_cell hgr hb (by simp), ← hrk]; exact hcl k (by omega)
      have HCK : Hid (Cells w ak (l k * 4) (dF (D k))) := hck
      have hlk := HL.out k hlt
      have hbig : w.heap.size < wr.heap.size := (hown.lt w.heap.size rfl).2
      have hbne : ¬ b = w.heap.size := by omega
      obtain ⟨lk, hlk'⟩ : ∃ lk, lk = l k := ⟨_, rfl⟩
      have HLK : Hid (lk = l k) := hlk'
      rw [← hlk'] at HCK c0 hlk
      clear hown hri hgr hcl hck hrk hlk'
      go_wp2_with (at_make; refine wpList_make_full _ rfl _ _ 65 rfl wr.heap.size 67 i7 (.agg #[.int .i64 0, .int .i64 0, .int .i32 0, .int .i32 0]) 4 Try.underlying65 hi7 hb0 hb1 _ _ _ _ lk rfl rfl rfl rfl ?b1 ?b2 ?b3 ?_)
      case b1 => rw [hb2]; omega
      case b2 => unfold maxLen; omega
      case b3 => exact Nat.le_refl _
      intro w2 hown2 hgr2
      have hbr : b < wr.heap.size := by omega
      have c1 : w2.cell? ⟨b, off + k, none⟩ = some (.slice ak lk ck) := by rw [grown_cell hgr2 hbr (by simp)]; exact c0
      have hO2 : w2.ownsRow w.heap.size 65 1 (.slice (some ⟨w.heap.size, 0, none⟩) R R) R (seg rows' 0 (R * 1)) := HO.out.kept hgr2 (.inr (by simp [Value.ownBlock]))
      have d0 : w2.cell? ⟨w.heap.size, k, none⟩ = some (rows' k) := by rw [hO2.cellAt _ (by omega), seg_at _ _ _ _ (by omega), Nat.zero_add]
      have e0 := hO2.frozenAt k
      obtain ⟨s1, s2⟩ := hO2.stored k (.slice (some ⟨wr.heap.size, 0, none⟩) lk lk)
      rw [seg_set] at s1
      obtain ⟨h0, hh0⟩ := own_fn hown2
      have HI : Hid ((w2.setCell ⟨w.heap.size, k, none⟩ (.slice (some ⟨wr.heap.size, 0, none⟩) lk lk)).ownsRow wr.heap.size 67 4 (.slice (some ⟨wr.heap.size, 0, none⟩) lk lk) lk (seg h0 0 (lk * 4))) := ownsRow_setCell_other hh0 (by simp [Value.ownBlock]; omega) _
      have HS1 : Hid _ := s1
      have HGQ : Hid (wr.grownBy (w2.setCell ⟨w.heap.size, k, none⟩ (.slice (some ⟨wr.heap.size, 0, none⟩) lk lk)) (some w.heap.size)) := grown_row hgr2 s2
      have HC0K : Hid (wr.cell? ⟨b, off + k, none⟩ = some (.slice ak lk ck)) := c0
      obtain ⟨wq, hwq⟩ : ∃ wq : World, wq = wr := ⟨_, rfl⟩
      subst hwq
      clear hown2 hgr2 hO2 s1 s2 hh0 c0
      go_wp2
      go_loopw [47] (fun i wi => ∃ (j : Nat) (h : Nat → Value), j ≤ lk ∧ i = .int .i64 j ∧ (∀ i, i < j * 4 → h i = dF (D k) i) ∧ wi.ownsRow wq.heap.size 67 4 (.slice (some ⟨wq.heap.size, 0, none⟩) lk lk) lk (seg h 0 (lk * 4)) ∧ wi.ownsRow w.heap.size 65 1 (.slice (some ⟨w.heap.size, 0, none⟩) R R) R (seg (fun i => if i = k then .slice (some ⟨wq.heap.size, 0, none⟩) lk lk else rows' i) 0 (R * 1)) ∧ wq.grownBy wi (some w.heap.size)) (fun i _ => lk - (intOf i).toNat)
      case atStart => exact ⟨0, h0, Nat.zero_le _, rfl, fun i hi => by omega, HI.out, HS1.out, HGQ.out⟩
      case round =>
        clear HI HS1 HGQ c1 d0 e0
        obtain ⟨j, h, hj, rfl, hhf, hown3, houter, hgr3⟩ := hrel
        have HO3 : Hid (wr.ownsRow wq.heap.size 67 4 (.slice (some ⟨wq.heap.size, 0, none⟩) lk lk) lk (seg h 0 (lk * 4))) := hown3
        have HOU : Hid (wr.ownsRow w.heap.size 65 1 (.slice (some ⟨w.heap.size, 0, none⟩) R R) R (seg (fun i => if i = k then .slice (some ⟨wq.heap.size, 0, none⟩) lk lk else rows' i) 0 (R * 1))) := houter
        have HG3 : Hid (wq.grownBy wr (some w.heap.size)) := hgr3
        have HF : Hid (∀ i, i < j * 4 → h i = dF (D k) i) := hhf
        have hqr := hgr3.size
        by_cases hjl : j < lk
        · obtain ⟨b', off', ex', hb', hcl'⟩ := HCK.out.at (by omega)
          subst ex'
          have c1 : wr.cell? ⟨b, off + k, none⟩ = some (.slice (some ⟨b', off', none⟩) lk ck) := by rw [grown_cell hgr3 hbr (by intro e; injection e; omega)]; exact HC0K.out
          have hsrc : ∀ i, i < lk * 4 → wr.cell? ⟨b', off' + i, none⟩ = some (dF (D k) i) := fun i hi => by
            rw [grown_cell hgr3 (show b' < wq.heap.size by omega) (by intro e; injection e; omega), grown_cell HG.out hb' (by simp)]; exact hcl' i hi
          have s0 : wr.cell? ⟨b', off' + j * 4, none⟩ = some (.int .i64 (D k j).1) := by rw [hsrc _ (by omega), dF0]
          have s1 : wr.cell? ⟨b', off' + j * 4 + 1, none⟩ = some (.int .i64 (D k j).2.1) := by rw [Nat.add_assoc, hsrc _ (by omega), dF1]
          have s2 : wr.cell? ⟨b', off' + j * 4 + 2, none⟩ = some (.int .i32 (D k j).2.2.1) := by rw [Nat.add_assoc, hsrc _ (by omega), dF2]
          have s3 : wr.cell? ⟨b', off' + j * 4 + 3, none⟩ = some (.int .i32 (D k j).2.2.2) := by rw [Nat.add_assoc, hsrc _ (by omega), dF3]
          have o0 : wr.cell? ⟨w.heap.size, k, none⟩ = some (.slice (some ⟨wq.heap.size, 0, none⟩) lk lk) := by rw [houter.cellAt _ (by omega), seg_at _ _ _ _ (by omega), Nat.zero_add, if_pos rfl]
          have t0 : wr.cell? ⟨wq.heap.size, j * 4, none⟩ = some (h (j * 4)) := by rw [hown3.cellAt _ (by omega), seg_at _ _ _ _ (by omega), Nat.zero_add]
          have t1 : wr.cell? ⟨wq.heap.size, j * 4 + 1, none⟩ = some (h (j * 4 + 1)) := by rw [hown3.cellAt _ (by omega), seg_at _ _ _ _ (by omega), Nat.zero_add]
          have t2 : wr.cell? ⟨wq.heap.size, j * 4 + 2, none⟩ = some (h (j * 4 + 2)) := by rw [hown3.cellAt _ (by omega), seg_at _ _ _ _ (by omega), Nat.zero_add]
          have t3 : wr.cell? ⟨wq.heap.size, j * 4 + 3, none⟩ = some (h (j * 4 + 3)) := by rw [hown3.cellAt _ (by omega), seg_at _ _ _ _ (by omega), Nat.zero_add]
          have f0 := hown3.frozenAt (j * 4)
          have f1 := hown3.frozenAt (j * 4 + 1)
          have f2 := hown3.frozenAt (j * 4 + 2)
          have f3 := hown3.frozenAt (j * 4 + 3)
          have hqlt : wq.heap.size < wr.heap.size := (hown3.lt wq.heap.size rfl).2
          have hwlt : w.heap.size < wr.heap.size := by omega
          obtain ⟨d0, d1, d2, d3, hd⟩ : ∃ d0 d1 d2 d3, D k j = (d0, d1, d2, d3) := ⟨_, _, _, _, rfl⟩
          have HDD : Hid (D k j = (d0, d1, d2, d3)) := hd
          rw [hd] at s0 s1 s2 s3
          clear hown3 houter hgr3 hhf hcl' hsrc hd
          go_wp2
          go_region
          all_goals go_wp2
          all_goals go_roundw
          case rel =>
            obtain ⟨g1, g2⟩ := own_storeMany (seg (dF (D k)) (j * 4) 4) (j * 4) HO3.out
            rw [setMany_seg] at g1
            have g3 := grown_fresh HG3.out g2 (Nat.le_refl _)
            have g4 := HOU.out.kept g2 (.inr (by simp [Value.ownBlock]; omega))
            rw [dF_seg, HDD.out] at g1 g3 g4
            refine ⟨j + 1, _, by omega, by go_num, fun i hi => ?_, (g1.alloc _).drew, (g4.alloc _).drew, grown_drew (grown_fresh g3 (World.grownBy_alloc _ _ _) (g := wq.heap.size) (Nat.le_refl _))⟩
            by_cases c : j * 4 ≤ i
            · rw [if_pos (by omega)]
            · rw [if_neg (by omega)]; exact HF.out i (by omega)
          case measure => simp [intOf]; omega
        · obtain rfl : j = lk := by omega
          clear hown3 houter hgr3 hhf
          go_wp2
          go_roundw
          case rel =>
            refine ⟨k + 1, _, by omega, by go_num, HOU.out, (HRI.out.mono HG3.out (fun b hb => by injection hb; omega)).push (ao := some ⟨wq.heap.size, 0, none⟩) (c := j) _ (by rw [← HLK.out]) (fun h => nomatch h) ?_ (fun x hx => by cases hx; exact hbig), grown_own HG.out HG3.out (Nat.le_refl _)⟩
            rw [← HLK.out]
            have q := cells_of_own HO3.out
            exact ⟨(fun h => nomatch h), fun x hx i hi => by rw [q.2 x hx i hi, HF.out i hi]⟩
          case measure => simp [intOf]; omega
    · obtain rfl : k = R := by omega
      obtain ⟨wA, hwA⟩ : ∃ wA : World, wA = wr := ⟨_, rfl⟩
      subst hwA
      have hwA : w.heap.size < wA.heap.size := (hown.lt w.heap.size rfl).2
      clear hown hri hgr
      go_wp2_with (at_make; refine wpList_make_full _ rfl _ _ 59 rfl wA.heap.size 70 i70 (.agg #[.int .i64 0, .int .i64 0, .int .i64 0, .int .i32 0]) 4 Try.underlying59 hi70 hc0 hc1 _ _ _ _ r rfl rfl rfl rfl ?b1 ?b2 ?b3 ?_)
      case b1 => rw [hc2]; omega
      case b2 => unfold maxLen; omega
      case b3 => exact Nat.le_refl _
      intro w2 hown2 hgr2
      have HO2 : Hid (∃ h : Nat → Value, w2.ownsRow wA.heap.size 70 4 (.slice (some ⟨wA.heap.size, 0, none⟩) r r) r (seg h 0 (r * 4))) := own_fn hown2
      have HG2 : Hid (wA.grownBy w2 none) := hgr2
      clear hown2 hgr2
      go_wp2
      go_loopw [79] (fun i wi => ∃ (j : Nat) (h : Nat → Value), j ≤ r ∧ i = .int .i64 j ∧ (∀ i, i < j * 4 → h i = rF Q0 i) ∧ wi.ownsRow wA.heap.size 70 4 (.slice (some ⟨wA.heap.size, 0, none⟩) r r) r (seg h 0 (r * 4)) ∧ wA.grownBy wi none) (fun i _ => r - (intOf i).toNat)
      case atStart =>
        obtain ⟨h, hh⟩ := HO2.out
        exact ⟨0, h, Nat.zero_le _, rfl, fun i hi => by omega, hh, HG2.out⟩
      case round =>
        clear HO2 HG2
        obtain ⟨j, h, hj, rfl, hhf, hown3, hgr3⟩ := hrel
        have HO3 : Hid (wr.ownsRow wA.heap.size 70 4 (.slice (some ⟨wA.heap.size, 0, none⟩) r r) r (seg h 0 (r * 4))) := hown3
        have HG3 : Hid (wA.grownBy wr none) := hgr3
        have HF : Hid (∀ i, i < j * 4 → h i = rF Q0 i) := hhf
        by_cases hjl : j < r
        · obtain ⟨b', off', ex', hb', hcl'⟩ := HC5.out.at (by omega)
          subst ex'
          have hsrc : ∀ i, i < r * 4 → wr.cell? ⟨b', off' + i, none⟩ = some (rF Q0 i) := fun i hi => by
            rw [grown_cell hgr3 (show b' < wA.heap.size by omega) (by simp), grown_cell HG.out hb' (by simp)]; exact hcl' i hi
          have s0 : wr.cell? ⟨b', off' + j * 4, none⟩ = some (.int .i64 (Q0 j).1) := by rw [hsrc _ (by omega), rF0]
          have s1 : wr.cell? ⟨b', off' + j * 4 + 1, none⟩ = some (.int .i64 (Q0 j).2.1) := by rw [Nat.add_assoc, hsrc _ (by omega), rF1]
          have s2 : wr.cell? ⟨b', off' + j * 4 + 2, none⟩ = some (.int .i64 (Q0 j).2.2.1) := by rw [Nat.add_assoc, hsrc _ (by omega), rF2]
          have s3 : wr.cell? ⟨b', off' + j * 4 + 3, none⟩ = some (.int .i32 (Q0 j).2.2.2) := by rw [Nat.add_assoc, hsrc _ (by omega), rF3]
          have t0 : wr.cell? ⟨wA.heap.size, j * 4, none⟩ = some (h (j * 4)) := by rw [hown3.cellAt _ (by omega), seg_at _ _ _ _ (by omega), Nat.zero_add]
          have t1 : wr.cell? ⟨wA.heap.size, j * 4 + 1, none⟩ = some (h (j * 4 + 1)) := by rw [hown3.cellAt _ (by omega), seg_at _ _ _ _ (by omega), Nat.zero_add]
          have t2 : wr.cell? ⟨wA.heap.size, j * 4 + 2, none⟩ = some (h (j * 4 + 2)) := by rw [hown3.cellAt _ (by omega), seg_at _ _ _ _ (by omega), Nat.zero_add]
          have t3 : wr.cell? ⟨wA.heap.size, j * 4 + 3, none⟩ = some (h (j * 4 + 3)) := by rw [hown3.cellAt _ (by omega), seg_at _ _ _ _ (by omega), Nat.zero_add]
          have f0 := hown3.frozenAt (j * 4)
          have f1 := hown3.frozenAt (j * 4 + 1)
          have f2 := hown3.frozenAt (j * 4 + 2)
          have f3 := hown3.frozenAt (j * 4 + 3)
          have hqlt : wA.heap.size < wr.heap.size := (hown3.lt wA.heap.size rfl).2
          obtain ⟨d0, d1, d2, d3, hd⟩ : ∃ d0 d1 d2 d3, Q0 j = (d0, d1, d2, d3) := ⟨_, _, _, _, rfl⟩
          have HDD : Hid (Q0 j = (d0, d1, d2, d3)) := hd
          rw [hd] at s0 s1 s2 s3
          clear hown3 hgr3 hhf hcl' hsrc hd
          go_wp2
          go_roundw
          case rel =>
            obtain ⟨g1, g2⟩ := own_storeMany (seg (rF Q0) (j * 4) 4) (j * 4) HO3.out
            rw [setMany_seg] at g1
            have g3 := grown_own HG3.out g2 (Nat.le_refl _)
            rw [rF_seg, HDD.out] at g1 g3
            refine ⟨j + 1, _, by omega, by go_num, fun i hi => ?_, g1.alloc _, grown_trans g3 (World.grownBy_alloc _ _ _)⟩
            by_cases c : j * 4 ≤ i
            · rw [if_pos (by omega)]
            · rw [if_neg (by omega)]; exact HF.out i (by omega)
          case measure => simp [intOf]; omega
        · obtain rfl : j = r := by omega
          obtain ⟨wB, hwB⟩ : ∃ wB : World, wB = wr := ⟨_, rfl⟩
          subst hwB
          have HOB : Hid (wB.ownsRow wA.heap.size 70 4 (.slice (some ⟨wA.heap.size, 0, none⟩) j j) j (seg (rF Q0) 0 (j * 4))) := by
            rw [← seg_congr (f := h) (g := rF Q0) (o := 0) (fun i hi => by rw [Nat.zero_add]; exact HF.out i hi)]; exact HO3.out
          have hAB := (hown3.lt wA.heap.size rfl).2
          clear hown3 hgr3 hhf HO3 HF
          go_wp2_with fail
          refine (zzRefsIn_any a0 n c0 zr wB hn (HC0.out.mono (grown_trans HG.out HG3.out) (by simp))).mono ?_
          rintro e wC ⟨rfl, hownC, hgrC⟩
          have HGC : Hid (wB.grownBy wC none) := hgrC
          clear hownC hgrC
          go_wp2_with fail
          refine (zzEdgesIn_any a4 m c4 (eZ E0) wC (by omega) (by rw [← eF_eZ]; exact HC4.out.mono (grown_trans (grown_trans HG.out HG3.out) HGC.out) (by simp))).mono ?_
          rintro e wD ⟨rfl, hownD, hgrD⟩
          have HOD : Hid (wD.ownsRow wC.heap.size 75 3 (.slice (some ⟨wC.heap.size, 0, none⟩) m m) m (seg (eF E0) 0 (m * 3))) := (by rw [eF_eZ]; exact hownD)
          have HGD : Hid (wC.grownBy wD none) := hgrD
          clear hownD hgrD
          go_wp2_with fail
          have hTL := TL_le s n
          have hRL := RL_le (frm D) l k
          have htt := HTOT.out
          obtain ⟨NE, hNE⟩ : ∃ NE, NE = m + (TL s n).length + (RL (frm D) l k).length := ⟨_, rfl⟩
          obtain ⟨NR, hNR⟩ : ∃ NR, NR = j + (RL (frm D) l k).length := ⟨_, rfl⟩
          have hNE' : NE ≤ 131072 := by omega
          have hNR' : NR ≤ 131072 := by omega
          have hgAD : wA.grownBy wD none := grown_trans (grown_trans HG3.out HGC.out) HGD.out
          have key : ∀ (O : Obj), O = .cells #[Value.pointer none, Value.slice (some { block := wB.heap.size, off := 0 }) n n, Value.slice a1 n c1, Value.slice a2 F c2, Value.slice none 0 0, Value.slice (some { block := w.heap.size, off := 0 }) k k, Value.map none, Value.slice (some { block := wC.heap.size, off := 0 }) m m, Value.slice (some { block := wA.heap.size, off := 0 }) j j] 61 →
              Calls Try.prog 22 #[.pointer (some ⟨wD.heap.size, 0, none⟩)] (wD.alloc O) fun e w' => e = .returned (.tuple #[]) ∧ GS w' wA.heap.size wD.heap.size (.slice none 0 0) 0 [] (endE E0 s D l m n k j) NE (endR Q0 D l k j) NR ∧ w.grownBy w' none := by
            intro O hO
            subst hO
            have hgE := grown_trans hgAD (World.grownBy_alloc wD (.cells #[Value.pointer none, Value.slice (some { block := wB.heap.size, off := 0 }) n n, Value.slice a1 n c1, Value.slice a2 F c2, Value.slice none 0 0, Value.slice (some { block := w.heap.size, off := 0 }) k k, Value.map none, Value.slice (some { block := wC.heap.size, off := 0 }) m m, Value.slice (some { block := wA.heap.size, off := 0 }) j j] 61) none)
            have z1 := hgAD.size
            have z2 := HGD.out.size
            have z3 := HGC.out.size
            have z4 := (HOD.out.lt wC.heap.size rfl).2
            have hsess : Cells wA (some ⟨w.heap.size, 0, none⟩) k rows' := by have q := cells_of_own HO.out; rwa [Nat.mul_one] at q
            refine (deps_any wA _ wD.heap.size n F k m j n c1 c2 k (some ⟨wB.heap.size, 0, none⟩) a1 a2 (some ⟨w.heap.size, 0, none⟩) s f rows' l D E0 Q0 hn hF hR hm hr HL.out HTOT.out (grown_below hgE)
              (cell_of_row _ _ _ _ 61 (0, 0) (heap_alloc_new wD _)) (cell_of_row _ _ _ _ 61 (0, 0) (heap_alloc_new wD _)) (cell_of_row _ _ _ _ 61 (0, 0) (heap_alloc_new wD _)) (cell_of_row _ _ _ _ 61 (0, 0) (heap_alloc_new wD _))
              (HC1.out.mono HG.out (by simp)) (HC2.out.mono HG.out (by simp)) hsess (HRI.out.lower (Nat.zero_le _)) HSB.out HFB.out ⟨_, _, ⟨cell_of_row _ _ _ _ 61 (0, 0) (heap_alloc_new wD _), cell_of_row _ _ _ _ 61 (0, 0) (heap_alloc_new wD _), World.frozen?_alloc_new _ _ _ _, World.frozen?_alloc_new _ _ _ _, ?_, ?_, ?_, ?_, z1, World.ownsRow_nil _ _ _ _, fun b hb => by simp [Value.ownBlock] at hb⟩⟩).mono ?_
            · rw [eF_congr (E := endE E0 s D l m n k j) (E' := E0) (fun i hi => endE_old hi)]
              exact own_low (HOD.out.alloc _) (by omega)
            · rw [rF_congr (Q := endR Q0 D l k j) (Q' := Q0) (fun i hi => endR_old hi)]
              exact (HOB.out.kept (grown_trans HGC.out HGD.out) (.inr (by simp [Value.ownBlock]))).alloc _
            · intro b hb
              have eb : b = wC.heap.size := (Option.some.inj (show some wC.heap.size = some b from hb)).symm
              subst eb
              exact ⟨by omega, by simp [Value.ownBlock]; omega⟩
            · intro b hb
              have eb : b = wA.heap.size := (Option.some.inj (show some wA.heap.size = some b from hb)).symm
              subst eb
              omega
            · rintro e w' ⟨rfl, q1, q2⟩
              refine ⟨rfl, by rw [hNE, hNR]; exact q1, below_grown ?_⟩
              exact (grown_below (grown_trans HG.out hgE)).trans (q2.bel.mono (by omega))
          refine (key _ rfl).mono ?_
          rintro e wF ⟨rfl, hgsF, hgrF⟩
          have HNE : Hid (NE = m + (TL s n).length + (RL (frm D) l k).length) := hNE
          have HNR : Hid (NR = j + (RL (frm D) l k).length) := hNR
          have HGF : Hid (w.grownBy wF none) := hgrF
          obtain ⟨E, hE⟩ : ∃ E, E = endE E0 s D l m n k j := ⟨_, rfl⟩
          obtain ⟨Q, hQ⟩ : ∃ Q, Q = endR Q0 D l k j := ⟨_, rfl⟩
          rw [← hE, ← hQ] at hgsF
          have HE : Hid (E = endE E0 s D l m n k j) := hE
          have HQ : Hid (Q = endR Q0 D l k j) := hQ
          obtain ⟨ev, rv, hx⟩ := hgsF
          obtain ⟨ae, ce, he⟩ := hx.formE
          obtain ⟨ar, cr, hr'⟩ := hx.formR
          subst he
          subst hr'
          have HX : Hid (GSx wF wA.heap.size wD.heap.size (.slice none 0 0) 0 [] (.slice ae NE ce) (.slice ar NR cr) E NE Q NR) := hx
          have g8 := hx.c8
          clear hE hQ hx hgrF key hgAD hTL hRL htt hNE hNR HOB HOD HC0 HC1 HC2 HC3 HC4 HC5 HRW HSB HFB HL HTOT HO HRI HG HG3 HGC HGD
          generalize wD.heap.size = G at *
          go_wp2_with (at_make; refine wpList_make_full _ rfl _ _ 38 rfl wF.heap.size 45 i45 (.agg #[.int .i64 0, .int .i64 0, .int .i64 0, .int .i32 0]) 4 Try.underlying38 hi45 hd0 hd1 _ _ _ _ NR rfl rfl rfl rfl ?b1 ?b2 ?b3 ?_)
          case b1 => rw [hd2]; omega
          case b2 => unfold maxLen; omega
          case b3 => exact Nat.le_refl _
          intro w5 hown5 hgr5
          have HO5 : Hid (∃ h : Nat → Value, w5.ownsRow wF.heap.size 45 4 (.slice (some ⟨wF.heap.size, 0, none⟩) NR NR) NR (seg h 0 (NR * 4))) := own_fn hown5
          have HG5 : Hid (wF.grownBy w5 none) := hgr5
          have g8' : w5.cell? ⟨G, 8, none⟩ = some (.slice ar NR cr) := by rw [grown_cell hgr5 HX.out.lt (by simp)]; exact g8
          clear hown5 hgr5 g8
          go_wp2
          go_loopw [122] (fun i wi => ∃ (j : Nat) (h : Nat → Value), j ≤ NR ∧ i = .int .i64 j ∧ (∀ i, i < j * 4 → h i = rF Q i) ∧ wi.ownsRow wF.heap.size 45 4 (.slice (some ⟨wF.heap.size, 0, none⟩) NR NR) NR (seg h 0 (NR * 4)) ∧ wF.grownBy wi none) (fun i _ => NR - (intOf i).toNat)
          case atStart =>
            obtain ⟨h, hh⟩ := HO5.out
            exact ⟨0, h, Nat.zero_le _, rfl, fun i hi => by omega, hh, HG5.out⟩
          case round =>
            clear HO5 HG5 g8'
            obtain ⟨i, h, hil, rfl, hhf, hown3, hgr3⟩ := hrel
            have HO3 : Hid (wr.ownsRow wF.heap.size 45 4 (.slice (some ⟨wF.heap.size, 0, none⟩) NR NR) NR (seg h 0 (NR * 4))) := hown3
            have HG3 : Hid (wF.grownBy wr none) := hgr3
            have HF : Hid (∀ x, x < i * 4 → h x = rF Q x) := hhf
            have g8 : wr.cell? ⟨G, 8, none⟩ = some (.slice ar NR cr) := by rw [grown_cell hgr3 HX.out.lt (by simp)]; exact HX.out.c8
            have hGF := HX.out.lt
            by_cases hjl : i < NR
            · obtain ⟨b', off', ex', hb', hcl'⟩ := (cells_of_own HX.out.orr).at (by omega)
              subst ex'
              have hsrc : ∀ x, x < NR * 4 → wr.cell? ⟨b', off' + x, none⟩ = some (rF Q x) := fun x hx => by
                rw [grown_cell hgr3 hb' (by simp)]; exact hcl' x hx
              have s0 : wr.cell? ⟨b', off' + i * 4, none⟩ = some (.int .i64 (Q i).1) := by rw [hsrc _ (by omega), rF0]
              have s1 : wr.cell? ⟨b', off' + i * 4 + 1, none⟩ = some (.int .i64 (Q i).2.1) := by rw [Nat.add_assoc, hsrc _ (by omega), rF1]
              have s2 : wr.cell? ⟨b', off' + i * 4 + 2, none⟩ = some (.int .i64 (Q i).2.2.1) := by rw [Nat.add_assoc, hsrc _ (by omega), rF2]
              have s3 : wr.cell? ⟨b', off' + i * 4 + 3, none⟩ = some (.int .i32 (Q i).2.2.2) := by rw [Nat.add_assoc, hsrc _ (by omega), rF3]
              have t0 : wr.cell? ⟨wF.heap.size, i * 4, none⟩ = some (h (i * 4)) := by rw [hown3.cellAt _ (by omega), seg_at _ _ _ _ (by omega), Nat.zero_add]
              have t1 : wr.cell? ⟨wF.heap.size, i * 4 + 1, none⟩ = some (h (i * 4 + 1)) := by rw [hown3.cellAt _ (by omega), seg_at _ _ _ _ (by omega), Nat.zero_add]
              have t2 : wr.cell? ⟨wF.heap.size, i * 4 + 2, none⟩ = some (h (i * 4 + 2)) := by rw [hown3.cellAt _ (by omega), seg_at _ _ _ _ (by omega), Nat.zero_add]
              have t3 : wr.cell? ⟨wF.heap.size, i * 4 + 3, none⟩ = some (h (i * 4 + 3)) := by rw [hown3.cellAt _ (by omega), seg_at _ _ _ _ (by omega), Nat.zero_add]
              have f0 := hown3.frozenAt (i * 4)
              have f1 := hown3.frozenAt (i * 4 + 1)
              have f2 := hown3.frozenAt (i * 4 + 2)
              have f3 := hown3.frozenAt (i * 4 + 3)
              have hqlt : wF.heap.size < wr.heap.size := (hown3.lt wF.heap.size rfl).2
              obtain ⟨d0, d1, d2, d3, hd⟩ : ∃ d0 d1 d2 d3, Q i = (d0, d1, d2, d3) := ⟨_, _, _, _, rfl⟩
              have HDD : Hid (Q i = (d0, d1, d2, d3)) := hd
              rw [hd] at s0 s1 s2 s3
              clear hown3 hgr3 hhf hcl' hsrc hd
              go_wp2
              go_roundw
              case rel =>
                obtain ⟨q1, q2⟩ := own_storeMany (seg (rF Q) (i * 4) 4) (i * 4) HO3.out
                rw [setMany_seg] at q1
                have q3 := grown_own HG3.out q2 (Nat.le_refl _)
                rw [rF_seg, HDD.out] at q1 q3
                refine ⟨i + 1, _, by omega, by go_num, fun x hx => ?_, q1.alloc _, grown_trans q3 (World.grownBy_alloc _ _ _)⟩
                by_cases c : i * 4 ≤ x
                · rw [if_pos (by omega)]
                · rw [if_neg (by omega)]; exact HF.out x (by omega)
              case measure => simp [intOf]; omega
            · obtain rfl : i = NR := by omega
              have g7 : wr.cell? ⟨G, 7, none⟩ = some (.slice ae NE ce) := by rw [grown_cell hgr3 HX.out.lt (by simp)]; exact HX.out.c7
              obtain ⟨wG, hwG⟩ : ∃ wG : World, wG = wr := ⟨_, rfl⟩
              subst hwG
              clear hown3 hgr3 hhf g8
              go_wp2_with fail
              refine (zzEdgesOut_at ae NE ce E wG hNE' ((cells_of_own HX.out.oe).mono HG3.out (by simp))).mono ?_
              rintro e wH ⟨rfl, hcH, hgH⟩
              have HCH : Hid _ := hcH
              have HGH : Hid (wG.grownBy wH none) := hgH
              clear hcH hgH g7
              go_wp2
              go_ret2
              rw [← HNE.out, ← HNR.out, ← HE.out, ← HQ.out]
              refine ⟨_, _, _, _, rfl, HCH.out, ?_, grown_trans (grown_trans HGF.out HG3.out) HGH.out⟩
              have q := cells_of_own HO3.out
              have q2 : Cells wG (some ⟨wF.heap.size, 0, none⟩) (i * 4) (rF Q) := ⟨(fun h => nomatch h), fun x hx y hy => by rw [q.2 x hx y hy, HF.out y hy]⟩
              exact q2.mono HGH.out (by simp)
end Go.Proofs.Qxb6605286a
