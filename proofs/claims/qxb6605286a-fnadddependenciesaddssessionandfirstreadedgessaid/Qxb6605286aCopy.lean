/-
  copyRefs, copyEdges: a copy in memory of its own.
-/
import Derived.Test.Qxb6605286aRows
import Derived.Test.Qxb6605286aMem
import Derived.WalkLawsBesides
import Derived.WalkSpells
import Derived.Deep.DeepCutAuto
namespace Go.Proofs.Qxb6605286a
open Go.RowKit

theorem own_fn {w : World} {base : Nat} {e : TypeId} {size : Nat} {v : Value} {n : Nat} {xs : List Value} (h : w.ownsRow base e size v n xs) : ∃ f : Nat → Value, w.ownsRow base e size v n (seg f 0 (n * size)) := by
  refine ⟨fun i => xs.getD i undef, ?_⟩
  have e1 : xs = seg (fun i => xs.getD i undef) 0 (n * size) := by
    have hl := h.1
    apply List.ext_getElem?
    intro j
    by_cases hj : j < n * size
    · rw [seg_at _ _ _ _ hj, Nat.zero_add, List.getElem?_eq_getElem (by omega)]
      simp [List.getD, show j < xs.length by omega]
    · rw [seg_out _ _ _ _ (by omega), List.getElem?_eq_none (by omega)]
  rw [← e1]; exact h

theorem Try.info49copyRefs : (Try.prog.info? 49).map (fun i => (i.zero, i.size, i.bytes)) = some (some (.agg #[.int .i64 0, .int .i64 0]), 2, 16) := by kernel_rfl
theorem Try.size49copyRefs : (Try.prog.info? 49).map (·.size) = some 2 := by kernel_rfl

set_option maxHeartbeats 1000000 in
set_option maxRecDepth 10000 in
theorem copyRefs_some (x : Addr) (n c : Nat) (f : Nat → Value) (w : World) (hn : n ≤ 16384) (h1 : ∀ i, (f i).oneCell' = true) (hcell : Cells w (some x) (n * 2) f) :
    Calls Try.prog 7 #[.slice (some x) n c] w fun e w' => e = .returned (.slice (some ⟨w.heap.size, 0, none⟩) n n) ∧ w'.ownsRow w.heap.size 49 2 (.slice (some ⟨w.heap.size, 0, none⟩) n n) n (seg f 0 (n * 2)) ∧ w.grownBy w' none := by
  have hnil := fun w a n c n' c' => Lib.run_eql_slice_nil (P := Try.prog) w 22 49 a n c n' c' Try.underlying22
  obtain ⟨i0, hi, hz0, hz1, hz2⟩ := info_parts Try.info49copyRefs
  have HC : Hid (Cells w (some x) (n * 2) f) := hcell
  have H1 : Hid (∀ i, (f i).oneCell' = true) := h1
  clear hcell h1
  go_enter Try.func7, Try.ntmps7
  go_wp2_with (at_make; refine wpList_make_full _ rfl _ _ 22 rfl w.heap.size 49 i0 (.agg #[.int .i64 0, .int .i64 0]) 2 Try.underlying22 hi hz0 hz1 _ _ _ _ n rfl rfl rfl rfl ?b1 ?b2 ?b3 ?_)
  case b1 => rw [hz2]; omega
  case b2 => unfold maxLen; omega
  case b3 => exact Nat.le_refl _
  intro w1 hown1 hgr1
  have HO1 : Hid (∃ h : Nat → Value, w1.ownsRow w.heap.size 49 2 (.slice (some ⟨w.heap.size, 0, none⟩) n n) n (seg h 0 (n * 2))) := own_fn hown1
  have HG1 : Hid (w.grownBy w1 none) := hgr1
  clear hown1 hgr1
  go_wp2
  go_loopw [12] (fun i wr => ∃ (k : Nat) (h : Nat → Value), k ≤ n ∧ i = .int .i64 k ∧ (∀ i, i < k * 2 → h i = f i) ∧ wr.ownsRow w.heap.size 49 2 (.slice (some ⟨w.heap.size, 0, none⟩) n n) n (seg h 0 (n * 2)) ∧ w.grownBy wr none) (fun i _ => n - (intOf i).toNat)
  case atStart =>
    obtain ⟨h, hh⟩ := HO1.out
    exact ⟨0, h, Nat.zero_le _, rfl, fun i hi => by omega, hh, HG1.out⟩
  case round =>
    clear HO1 HG1
    obtain ⟨k, h, hk, rfl, hhf, hown, hgr⟩ := hrel
    have HO : Hid (wr.ownsRow w.heap.size 49 2 (.slice (some ⟨w.heap.size, 0, none⟩) n n) n (seg h 0 (n * 2))) := hown
    have HG : Hid (w.grownBy wr none) := hgr
    have HF : Hid (∀ i, i < k * 2 → h i = f i) := hhf
    by_cases hlt : k < n
    · obtain ⟨b, off, ex, hb, hcl⟩ := HC.out.at (by omega)
      obtain rfl := Option.some.inj ex
      have hsrc : wr.rangeAt b (off + k * 2) (seg f (k * 2) 2) := by
        intro j v hv
        obtain ⟨hj, rfl⟩ := seg_get hv
        rw [Nat.add_assoc, grown_cell hgr hb (by simp)]
        exact hcl (k * 2 + j) (by omega)
      have hdst : wr.there w.heap.size (k * 2) 2 := own_there hown (by omega)
      have hones : ((seg f (k * 2) 2).toArray).all (·.oneCell') = true := all_oneCell_toArray (seg_one fun j _ => H1.out _)
      have HSRC : Hid (wr.rangeAt b (off + k * 2) (seg f (k * 2) 2)) := hsrc
      have HDST : Hid (wr.there w.heap.size (k * 2) 2) := hdst
      have HONE : Hid (((seg f (k * 2) 2).toArray).all (·.oneCell') = true) := hones
      obtain ⟨S, hS⟩ : ∃ S, S = seg f (k * 2) 2 := ⟨_, rfl⟩
      have HS : Hid (S = seg f (k * 2) 2) := hS
      have HSL : Hid (S.length = 2) := (show S.length = 2 by rw [hS, seg_len])
      rw [← hS] at HSRC HONE
      have eSz : S.toArray.size = 2 := HSL.out
      have hdst2 : wr.there w.heap.size (k * 2) S.toArray.size := by rw [eSz]; exact hdst
      have HDS : Hid (wr.there w.heap.size (k * 2) S.toArray.size) := hdst2
      have hsz2 : (Try.prog.info? 49).map (·.size) = some S.toArray.size := by rw [eSz]; exact Try.size49copyRefs
      have HSZ : Hid ((Try.prog.info? 49).map (·.size) = some S.toArray.size) := hsz2
      clear hdst2 hsz2 eSz
      clear hown hgr hhf hcl hsrc hdst hones ex hS
      go_wp2_with (first | (refine wpList_load_mid rfl 49 _ rfl b (off + k * 2) rfl S _ HSRC.out Try.underlying49 rfl HSZ.out ?_) | (refine wpList_store_mid rfl 49 _ _ rfl w.heap.size (k * 2) S.toArray rfl rfl HDS.out HSZ.out HONE.out ?_))
      go_roundw
      case rel =>
        obtain ⟨g1, g2⟩ := own_storeMany (seg f (k * 2) 2) (k * 2) HO.out
        rw [setMany_seg] at g1
        have g3 := grown_own HG.out g2 (Nat.le_refl _)
        rw [← HS.out] at g1 g3
        refine ⟨k + 1, _, by omega, by go_num, fun i hi => ?_, by simpa using g1, by simpa using g3⟩
        by_cases c : k * 2 ≤ i
        · rw [if_pos (by omega)]
        · rw [if_neg (by omega)]; exact HF.out i (by omega)
      case measure => simp [intOf]; omega
    · obtain rfl : k = n := by omega
      clear hown hgr hhf
      go_wp2
      go_ret
      exact ⟨rfl, by rw [← seg_congr (f := h) (g := f) (o := 0) (fun j hj => by rw [Nat.zero_add]; exact HF.out j hj)]; exact HO.out, HG.out⟩

theorem copyRefs_nil (w : World) : Calls Try.prog 7 #[.slice none 0 0] w fun e w' => e = .returned (.slice none 0 0) ∧ w' = w := by
  have hnil := fun w a n c n' c' => Lib.run_eql_slice_nil (P := Try.prog) w 22 49 a n c n' c' Try.underlying22
  go_enter Try.func7, Try.ntmps7
  go_wp2
  go_ret
  exact ⟨rfl, rfl⟩

theorem copyRefs_any (ao : Option Addr) (n c : Nat) (f : Nat → Value) (w : World) (hn : n ≤ 16384) (h1 : ∀ i, (f i).oneCell' = true) (hnil : ao = none → n = 0 ∧ c = 0) (hcell : Cells w ao (n * 2) f) :
    Calls Try.prog 7 #[.slice ao n c] w fun e w' => ∃ ao' c', e = .returned (.slice ao' n c') ∧ w'.ownsRow w.heap.size 49 2 (.slice ao' n c') n (seg f 0 (n * 2)) ∧ w.grownBy w' none := by
  cases ao with
  | none =>
    obtain ⟨rfl, rfl⟩ := hnil rfl
    refine (copyRefs_nil w).mono ?_
    rintro e w' ⟨rfl, rfl⟩
    exact ⟨none, 0, rfl, World.ownsRow_nil _ _ _ _, grown_refl _ _⟩
  | some x =>
    refine (copyRefs_some x n c f w hn h1 hcell).mono ?_
    rintro e w' ⟨rfl, h2, h3⟩
    exact ⟨_, n, rfl, h2, h3⟩

theorem Try.info25copyEdges : (Try.prog.info? 25).map (fun i => (i.zero, i.size, i.bytes)) = some (some (.agg #[.int .i32 0, .int .i32 0, .int .i32 0]), 3, 12) := by kernel_rfl
theorem Try.size25copyEdges : (Try.prog.info? 25).map (·.size) = some 3 := by kernel_rfl

set_option maxHeartbeats 1000000 in
set_option maxRecDepth 10000 in
theorem copyEdges_some (x : Addr) (n c : Nat) (f : Nat → Value) (w : World) (hn : n ≤ 65536) (h1 : ∀ i, (f i).oneCell' = true) (hcell : Cells w (some x) (n * 3) f) :
    Calls Try.prog 8 #[.slice (some x) n c] w fun e w' => e = .returned (.slice (some ⟨w.heap.size, 0, none⟩) n n) ∧ w'.ownsRow w.heap.size 25 3 (.slice (some ⟨w.heap.size, 0, none⟩) n n) n (seg f 0 (n * 3)) ∧ w.grownBy w' none := by
  have hnil := fun w a n c n' c' => Lib.run_eql_slice_nil (P := Try.prog) w 23 25 a n c n' c' Try.underlying23
  obtain ⟨i0, hi, hz0, hz1, hz2⟩ := info_parts Try.info25copyEdges
  have HC : Hid (Cells w (some x) (n * 3) f) := hcell
  have H1 : Hid (∀ i, (f i).oneCell' = true) := h1
  clear hcell h1
  go_enter Try.func8, Try.ntmps8
  go_wp2_with (at_make; refine wpList_make_full _ rfl _ _ 23 rfl w.heap.size 25 i0 (.agg #[.int .i32 0, .int .i32 0, .int .i32 0]) 3 Try.underlying23 hi hz0 hz1 _ _ _ _ n rfl rfl rfl rfl ?b1 ?b2 ?b3 ?_)
  case b1 => rw [hz2]; omega
  case b2 => unfold maxLen; omega
  case b3 => exact Nat.le_refl _
  intro w1 hown1 hgr1
  have HO1 : Hid (∃ h : Nat → Value, w1.ownsRow w.heap.size 25 3 (.slice (some ⟨w.heap.size, 0, none⟩) n n) n (seg h 0 (n * 3))) := own_fn hown1
  have HG1 : Hid (w.grownBy w1 none) := hgr1
  clear hown1 hgr1
  go_wp2
  go_loopw [12] (fun i wr => ∃ (k : Nat) (h : Nat → Value), k ≤ n ∧ i = .int .i64 k ∧ (∀ i, i < k * 3 → h i = f i) ∧ wr.ownsRow w.heap.size 25 3 (.slice (some ⟨w.heap.size, 0, none⟩) n n) n (seg h 0 (n * 3)) ∧ w.grownBy wr none) (fun i _ => n - (intOf i).toNat)
  case atStart =>
    obtain ⟨h, hh⟩ := HO1.out
    exact ⟨0, h, Nat.zero_le _, rfl, fun i hi => by omega, hh, HG1.out⟩
  case round =>
    clear HO1 HG1
    obtain ⟨k, h, hk, rfl, hhf, hown, hgr⟩ := hrel
    have HO : Hid (wr.ownsRow w.heap.size 25 3 (.slice (some ⟨w.heap.size, 0, none⟩) n n) n (seg h 0 (n * 3))) := hown
    have HG : Hid (w.grownBy wr none) := hgr
    have HF : Hid (∀ i, i < k * 3 → h i = f i) := hhf
    by_cases hlt : k < n
    · obtain ⟨b, off, ex, hb, hcl⟩ := HC.out.at (by omega)
      obtain rfl := Option.some.inj ex
      have hsrc : wr.rangeAt b (off + k * 3) (seg f (k * 3) 3) := by
        intro j v hv
        obtain ⟨hj, rfl⟩ := seg_get hv
        rw [Nat.add_assoc, grown_cell hgr hb (by simp)]
        exact hcl (k * 3 + j) (by omega)
      have hdst : wr.there w.heap.size (k * 3) 3 := own_there hown (by omega)
      have hones : ((seg f (k * 3) 3).toArray).all (·.oneCell') = true := all_oneCell_toArray (seg_one fun j _ => H1.out _)
      have HSRC : Hid (wr.rangeAt b (off + k * 3) (seg f (k * 3) 3)) := hsrc
      have HDST : Hid (wr.there w.heap.size (k * 3) 3) := hdst
      have HONE : Hid (((seg f (k * 3) 3).toArray).all (·.oneCell') = true) := hones
      obtain ⟨S, hS⟩ : ∃ S, S = seg f (k * 3) 3 := ⟨_, rfl⟩
      have HS : Hid (S = seg f (k * 3) 3) := hS
      have HSL : Hid (S.length = 3) := (show S.length = 3 by rw [hS, seg_len])
      rw [← hS] at HSRC HONE
      have eSz : S.toArray.size = 3 := HSL.out
      have hdst2 : wr.there w.heap.size (k * 3) S.toArray.size := by rw [eSz]; exact hdst
      have HDS : Hid (wr.there w.heap.size (k * 3) S.toArray.size) := hdst2
      have hsz2 : (Try.prog.info? 25).map (·.size) = some S.toArray.size := by rw [eSz]; exact Try.size25copyEdges
      have HSZ : Hid ((Try.prog.info? 25).map (·.size) = some S.toArray.size) := hsz2
      clear hdst2 hsz2 eSz
      clear hown hgr hhf hcl hsrc hdst hones ex hS
      go_wp2_with (first | (refine wpList_load_mid rfl 25 _ rfl b (off + k * 3) rfl S _ HSRC.out Try.underlying25 rfl HSZ.out ?_) | (refine wpList_store_mid rfl 25 _ _ rfl w.heap.size (k * 3) S.toArray rfl rfl HDS.out HSZ.out HONE.out ?_))
      go_roundw
      case rel =>
        obtain ⟨g1, g2⟩ := own_storeMany (seg f (k * 3) 3) (k * 3) HO.out
        rw [setMany_seg] at g1
        have g3 := grown_own HG.out g2 (Nat.le_refl _)
        rw [← HS.out] at g1 g3
        refine ⟨k + 1, _, by omega, by go_num, fun i hi => ?_, by simpa using g1, by simpa using g3⟩
        by_cases c : k * 3 ≤ i
        · rw [if_pos (by omega)]
        · rw [if_neg (by omega)]; exact HF.out i (by omega)
      case measure => simp [intOf]; omega
    · obtain rfl : k = n := by omega
      clear hown hgr hhf
      go_wp2
      go_ret
      exact ⟨rfl, by rw [← seg_congr (f := h) (g := f) (o := 0) (fun j hj => by rw [Nat.zero_add]; exact HF.out j hj)]; exact HO.out, HG.out⟩

theorem copyEdges_nil (w : World) : Calls Try.prog 8 #[.slice none 0 0] w fun e w' => e = .returned (.slice none 0 0) ∧ w' = w := by
  have hnil := fun w a n c n' c' => Lib.run_eql_slice_nil (P := Try.prog) w 23 25 a n c n' c' Try.underlying23
  go_enter Try.func8, Try.ntmps8
  go_wp2
  go_ret
  exact ⟨rfl, rfl⟩

theorem copyEdges_any (ao : Option Addr) (n c : Nat) (f : Nat → Value) (w : World) (hn : n ≤ 65536) (h1 : ∀ i, (f i).oneCell' = true) (hnil : ao = none → n = 0 ∧ c = 0) (hcell : Cells w ao (n * 3) f) :
    Calls Try.prog 8 #[.slice ao n c] w fun e w' => ∃ ao' c', e = .returned (.slice ao' n c') ∧ w'.ownsRow w.heap.size 25 3 (.slice ao' n c') n (seg f 0 (n * 3)) ∧ w.grownBy w' none := by
  cases ao with
  | none =>
    obtain ⟨rfl, rfl⟩ := hnil rfl
    refine (copyEdges_nil w).mono ?_
    rintro e w' ⟨rfl, rfl⟩
    exact ⟨none, 0, rfl, World.ownsRow_nil _ _ _ _, grown_refl _ _⟩
  | some x =>
    refine (copyEdges_some x n c f w hn h1 hcell).mono ?_
    rintro e w' ⟨rfl, h2, h3⟩
    exact ⟨_, n, rfl, h2, h3⟩
end Go.Proofs.Qxb6605286a
