/-
  zzRefsIn, zzEdgesIn: the rows turned into the package's own structs.
-/
import Derived.Test.Qxb6605286aCopy
import Derived.RegionTactic
namespace Go.Proofs.Qxb6605286a
open Go.RowKit

theorem Try.info73zzRefsIn : (Try.prog.info? 73).map (fun i => (i.zero, i.size, i.bytes)) = some (some (.agg #[.int .i64 0, .int .i64 0]), 2, 16) := by kernel_rfl

set_option maxHeartbeats 2000000 in
set_option maxRecDepth 10000 in
theorem zzRefsIn_any (ao : Option Addr) (n c : Nat) (z : Nat → Int) (w : World) (hn : n ≤ 16384) (hcell : Cells w ao (n * 2) (fun i => .int .i64 (z i))) :
    Calls Try.prog 18 #[.slice ao n c] w fun e w' => e = .returned (.slice (some ⟨w.heap.size, 0, none⟩) n n) ∧ w'.ownsRow w.heap.size 73 2 (.slice (some ⟨w.heap.size, 0, none⟩) n n) n (seg (fun i => .int .i64 (z i)) 0 (n * 2)) ∧ w.grownBy w' none := by
  obtain ⟨i0, hi, hz0, hz1, hz2⟩ := info_parts Try.info73zzRefsIn
  have HC : Hid (Cells w ao (n * 2) (fun i => .int .i64 (z i))) := hcell
  clear hcell
  go_enter Try.func18, Try.ntmps18
  go_wp2_with (at_make; refine wpList_make_full _ rfl _ _ 51 rfl w.heap.size 73 i0 (.agg #[.int .i64 0, .int .i64 0]) 2 Try.underlying51 hi hz0 hz1 _ _ _ _ n rfl rfl rfl rfl ?b1 ?b2 ?b3 ?_)
  case b1 => rw [hz2]; omega
  case b2 => unfold maxLen; omega
  case b3 => exact Nat.le_refl _
  intro w1 hown1 hgr1
  have HO1 : Hid (∃ h : Nat → Value, w1.ownsRow w.heap.size 73 2 (.slice (some ⟨w.heap.size, 0, none⟩) n n) n (seg h 0 (n * 2))) := own_fn hown1
  have HG1 : Hid (w.grownBy w1 none) := hgr1
  clear hown1 hgr1
  go_wp2
  go_loopw [10] (fun i wr => ∃ (k : Nat) (h : Nat → Value), k ≤ n ∧ i = .int .i64 k ∧ (∀ i, i < k * 2 → h i = .int .i64 (z i)) ∧ wr.ownsRow w.heap.size 73 2 (.slice (some ⟨w.heap.size, 0, none⟩) n n) n (seg h 0 (n * 2)) ∧ w.grownBy wr none) (fun i _ => n - (intOf i).toNat)
  case atStart =>
    obtain ⟨h, hh⟩ := HO1.out
    exact ⟨0, h, Nat.zero_le _, rfl, fun i hi => by omega, hh, HG1.out⟩
  case round =>
    clear HO1 HG1
    obtain ⟨k, h, hk, rfl, hhf, hown, hgr⟩ := hrel
    have HO : Hid (wr.ownsRow w.heap.size 73 2 (.slice (some ⟨w.heap.size, 0, none⟩) n n) n (seg h 0 (n * 2))) := hown
    have HG : Hid (w.grownBy wr none) := hgr
    have HF : Hid (∀ i, i < k * 2 → h i = .int .i64 (z i)) := hhf
    by_cases hlt : k < n
    · obtain ⟨b, off, ex, hb, hcl⟩ := HC.out.at (by omega)
      subst ex
      have c0 : wr.cell? ⟨b, off + k * 2, none⟩ = some (.int .i64 (z (k * 2 + 0))) := by
        rw [grown_cell hgr hb (by simp)]; exact hcl (k * 2 + 0) (by omega)
      have c1 : wr.cell? ⟨b, off + k * 2 + 1, none⟩ = some (.int .i64 (z (k * 2 + 1))) := by
        rw [Nat.add_assoc, grown_cell hgr hb (by simp)]; exact hcl (k * 2 + 1) (by omega)
      have d0 : wr.cell? ⟨w.heap.size, k * 2, none⟩ = some (h (k * 2)) := by
        rw [hown.cellAt _ (by omega), seg_at _ _ _ _ (by omega), Nat.zero_add]
      have e0 := hown.frozenAt (k * 2)
      have d1 : wr.cell? ⟨w.heap.size, k * 2 + 1, none⟩ = some (h (k * 2 + 1)) := by
        rw [hown.cellAt _ (by omega), seg_at _ _ _ _ (by omega), Nat.zero_add]
      have e1 := hown.frozenAt (k * 2 + 1)
      clear hown hgr hhf hcl
      go_wp2
      go_region
      all_goals go_wp2
      all_goals go_roundw
      case rel =>
        obtain ⟨g1, g2⟩ := own_storeMany (seg (fun i => .int .i64 (z i)) (k * 2) 2) (k * 2) HO.out
        rw [setMany_seg] at g1
        have g3 := grown_own HG.out g2 (Nat.le_refl _)
        refine ⟨k + 1, _, by omega, by go_num, fun i hi => ?_, g1.drew, grown_drew g3⟩
        by_cases c : k * 2 ≤ i
        · rw [if_pos (by omega)]
        · rw [if_neg (by omega)]; exact HF.out i (by omega)
      case measure => simp [intOf]; omega
    · obtain rfl : k = n := by omega
      clear hown hgr hhf
      go_wp2
      go_ret
      exact ⟨rfl, by rw [← seg_congr (f := h) (g := fun i => .int .i64 (z i)) (o := 0) (fun j hj => by rw [Nat.zero_add]; exact HF.out j hj)]; exact HO.out, HG.out⟩

theorem Try.info75zzEdgesIn : (Try.prog.info? 75).map (fun i => (i.zero, i.size, i.bytes)) = some (some (.agg #[.int .i32 0, .int .i32 0, .int .i32 0]), 3, 12) := by kernel_rfl

set_option maxHeartbeats 2000000 in
set_option maxRecDepth 10000 in
theorem zzEdgesIn_any (ao : Option Addr) (n c : Nat) (z : Nat → Int) (w : World) (hn : n ≤ 65536) (hcell : Cells w ao (n * 3) (fun i => .int .i32 (z i))) :
    Calls Try.prog 19 #[.slice ao n c] w fun e w' => e = .returned (.slice (some ⟨w.heap.size, 0, none⟩) n n) ∧ w'.ownsRow w.heap.size 75 3 (.slice (some ⟨w.heap.size, 0, none⟩) n n) n (seg (fun i => .int .i32 (z i)) 0 (n * 3)) ∧ w.grownBy w' none := by
  obtain ⟨i0, hi, hz0, hz1, hz2⟩ := info_parts Try.info75zzEdgesIn
  have HC : Hid (Cells w ao (n * 3) (fun i => .int .i32 (z i))) := hcell
  clear hcell
  go_enter Try.func19, Try.ntmps19
  go_wp2_with (at_make; refine wpList_make_full _ rfl _ _ 53 rfl w.heap.size 75 i0 (.agg #[.int .i32 0, .int .i32 0, .int .i32 0]) 3 Try.underlying53 hi hz0 hz1 _ _ _ _ n rfl rfl rfl rfl ?b1 ?b2 ?b3 ?_)
  case b1 => rw [hz2]; omega
  case b2 => unfold maxLen; omega
  case b3 => exact Nat.le_refl _
  intro w1 hown1 hgr1
  have HO1 : Hid (∃ h : Nat → Value, w1.ownsRow w.heap.size 75 3 (.slice (some ⟨w.heap.size, 0, none⟩) n n) n (seg h 0 (n * 3))) := own_fn hown1
  have HG1 : Hid (w.grownBy w1 none) := hgr1
  clear hown1 hgr1
  go_wp2
  go_loopw [10] (fun i wr => ∃ (k : Nat) (h : Nat → Value), k ≤ n ∧ i = .int .i64 k ∧ (∀ i, i < k * 3 → h i = .int .i32 (z i)) ∧ wr.ownsRow w.heap.size 75 3 (.slice (some ⟨w.heap.size, 0, none⟩) n n) n (seg h 0 (n * 3)) ∧ w.grownBy wr none) (fun i _ => n - (intOf i).toNat)
  case atStart =>
    obtain ⟨h, hh⟩ := HO1.out
    exact ⟨0, h, Nat.zero_le _, rfl, fun i hi => by omega, hh, HG1.out⟩
  case round =>
    clear HO1 HG1
    obtain ⟨k, h, hk, rfl, hhf, hown, hgr⟩ := hrel
    have HO : Hid (wr.ownsRow w.heap.size 75 3 (.slice (some ⟨w.heap.size, 0, none⟩) n n) n (seg h 0 (n * 3))) := hown
    have HG : Hid (w.grownBy wr none) := hgr
    have HF : Hid (∀ i, i < k * 3 → h i = .int .i32 (z i)) := hhf
    by_cases hlt : k < n
    · obtain ⟨b, off, ex, hb, hcl⟩ := HC.out.at (by omega)
      subst ex
      have c0 : wr.cell? ⟨b, off + k * 3, none⟩ = some (.int .i32 (z (k * 3 + 0))) := by
        rw [grown_cell hgr hb (by simp)]; exact hcl (k * 3 + 0) (by omega)
      have c1 : wr.cell? ⟨b, off + k * 3 + 1, none⟩ = some (.int .i32 (z (k * 3 + 1))) := by
        rw [Nat.add_assoc, grown_cell hgr hb (by simp)]; exact hcl (k * 3 + 1) (by omega)
      have c2 : wr.cell? ⟨b, off + k * 3 + 2, none⟩ = some (.int .i32 (z (k * 3 + 2))) := by
        rw [Nat.add_assoc, grown_cell hgr hb (by simp)]; exact hcl (k * 3 + 2) (by omega)
      have d0 : wr.cell? ⟨w.heap.size, k * 3, none⟩ = some (h (k * 3)) := by
        rw [hown.cellAt _ (by omega), seg_at _ _ _ _ (by omega), Nat.zero_add]
      have e0 := hown.frozenAt (k * 3)
      have d1 : wr.cell? ⟨w.heap.size, k * 3 + 1, none⟩ = some (h (k * 3 + 1)) := by
        rw [hown.cellAt _ (by omega), seg_at _ _ _ _ (by omega), Nat.zero_add]
      have e1 := hown.frozenAt (k * 3 + 1)
      have d2 : wr.cell? ⟨w.heap.size, k * 3 + 2, none⟩ = some (h (k * 3 + 2)) := by
        rw [hown.cellAt _ (by omega), seg_at _ _ _ _ (by omega), Nat.zero_add]
      have e2 := hown.frozenAt (k * 3 + 2)
      clear hown hgr hhf hcl
      go_wp2
      go_region
      all_goals go_wp2
      all_goals go_roundw
      case rel =>
        obtain ⟨g1, g2⟩ := own_storeMany (seg (fun i => .int .i32 (z i)) (k * 3) 3) (k * 3) HO.out
        rw [setMany_seg] at g1
        have g3 := grown_own HG.out g2 (Nat.le_refl _)
        refine ⟨k + 1, _, by omega, by go_num, fun i hi => ?_, g1.drew, grown_drew g3⟩
        by_cases c : k * 3 ≤ i
        · rw [if_pos (by omega)]
        · rw [if_neg (by omega)]; exact HF.out i (by omega)
      case measure => simp [intOf]; omega
    · obtain rfl : k = n := by omega
      clear hown hgr hhf
      go_wp2
      go_ret
      exact ⟨rfl, by rw [← seg_congr (f := h) (g := fun i => .int .i32 (z i)) (o := 0) (fun j hj => by rw [Nat.zero_add]; exact HF.out j hj)]; exact HO.out, HG.out⟩
end Go.Proofs.Qxb6605286a
