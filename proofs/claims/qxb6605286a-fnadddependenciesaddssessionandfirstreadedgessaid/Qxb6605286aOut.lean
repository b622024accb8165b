/-
  zzEdgesOut: the edges turned back into rows.
-/
import Derived.Test.Qxb6605286aMem2
import Derived.Test.Qxb6605286aCopy
import Derived.RegionTactic
import Derived.BigRegion
namespace Go.Proofs.Qxb6605286a
open Go.RowKit

theorem Try.info25zzEdgesOut : (Try.prog.info? 25).map (fun i => (i.zero, i.size, i.bytes)) = some (some (.agg #[.int .i32 0, .int .i32 0, .int .i32 0]), 3, 12) := by kernel_rfl

set_option maxHeartbeats 2000000 in
set_option maxRecDepth 10000 in
theorem zzEdgesOut_any (ao : Option Addr) (n c : Nat) (z : Nat → Int) (w : World) (hn : n ≤ 131072) (hcell : Cells w ao (n * 3) (fun i => .int .i32 (z i))) :
    Calls Try.prog 23 #[.slice ao n c] w fun e w' => e = .returned (.slice (some ⟨w.heap.size, 0, none⟩) n n) ∧ w'.ownsRow w.heap.size 25 3 (.slice (some ⟨w.heap.size, 0, none⟩) n n) n (seg (fun i => .int .i32 (z i)) 0 (n * 3)) ∧ w.grownBy w' none := by
  obtain ⟨i0, hi, hz0, hz1, hz2⟩ := info_parts Try.info25zzEdgesOut
  have HC : Hid (Cells w ao (n * 3) (fun i => .int .i32 (z i))) := hcell
  clear hcell
  go_enter Try.func23, Try.ntmps23
  go_wp2_with (at_make; refine wpList_make_full _ rfl _ _ 23 rfl w.heap.size 25 i0 (.agg #[.int .i32 0, .int .i32 0, .int .i32 0]) 3 Try.underlying23 hi hz0 hz1 _ _ _ _ n rfl rfl rfl rfl ?b1 ?b2 ?b3 ?_)
  case b1 => rw [hz2]; omega
  case b2 => unfold maxLen; omega
  case b3 => exact Nat.le_refl _
  intro w1 hown1 hgr1
  have HO1 : Hid (∃ h : Nat → Value, w1.ownsRow w.heap.size 25 3 (.slice (some ⟨w.heap.size, 0, none⟩) n n) n (seg h 0 (n * 3))) := own_fn hown1
  have HG1 : Hid (w.grownBy w1 none) := hgr1
  clear hown1 hgr1
  go_wp2
  go_loopw [10] (fun i wr => ∃ (k : Nat) (h : Nat → Value), k ≤ n ∧ i = .int .i64 k ∧ (∀ i, i < k * 3 → h i = .int .i32 (z i)) ∧ wr.ownsRow w.heap.size 25 3 (.slice (some ⟨w.heap.size, 0, none⟩) n n) n (seg h 0 (n * 3)) ∧ w.grownBy wr none) (fun i _ => n - (intOf i).toNat)
  case atStart =>
    obtain ⟨h, hh⟩ := HO1.out
    exact ⟨0, h, Nat.zero_le _, rfl, fun i hi => by omega, hh, HG1.out⟩
  case round =>
    clear HO1 HG1
    obtain ⟨k, h, hk, rfl, hhf, hown, hgr⟩ := hrel
    have HO : Hid (wr.ownsRow w.heap.size 25 3 (.slice (some ⟨w.heap.size, 0, none⟩) n n) n (seg h 0 (n * 3))) := hown
    have HG : Hid (w.grownBy wr none) := hgr
    have HF : Hid (∀ i, i < k * 3 → h i = .int .i32 (z i)) := hhf
    by_cases hlt : k < n
    · obtain ⟨b, off, ex, hb, hcl⟩ := HC.out.at (by omega)
      subst ex
      have c0 : wr.cell? ⟨b, off + k * 3, none⟩ = some (.int .i32 (z (k * 3 + 0))) := by
        rw [grown_cell hgr hb (by simp)]; exact hcl (k * 3 + 0) (by omega)
      have c1 : wr.cell? ⟨b, off + k * 3 + 1, none⟩ = some (.int .i32 (z (k * 3 + 1))) := by
        rw [Nat.add_assoc, grown_cell hgr hb (by simp)]; exact hcl (k * 3 + 1) (by omega)
      have c2 : wr.cell? ⟨b, off + k * 3 + 2, none⟩ = some (.int .i32 (z (k * 3 + 2))) := by
        rw [Nat.add_assoc, grown_cell hgr hb (by simp)]; exact hcl (k * 3 + 2) (by omega)
      have d0 : wr.cell? ⟨w.heap.size, k * 3, none⟩ = some (h (k * 3)) := by
        rw [hown.cellAt _ (by omega), seg_at _ _ _ _ (by omega), Nat.zero_add]
      have e0 := hown.frozenAt (k * 3)
      have d1 : wr.cell? ⟨w.heap.size, k * 3 + 1, none⟩ = some (h (k * 3 + 1)) := by
        rw [hown.cellAt _ (by omega), seg_at _ _ _ _ (by omega), Nat.zero_add]
      have e1 := hown.frozenAt (k * 3 + 1)
      have d2 : wr.cell? ⟨w.heap.size, k * 3 + 2, none⟩ = some (h (k * 3 + 2)) := by
        rw [hown.cellAt _ (by omega), seg_at _ _ _ _ (by omega), Nat.zero_add]
      have e2 := hown.frozenAt (k * 3 + 2)
      clear hown hgr hhf hcl
      go_wp2
      go_region
      all_goals go_wp2
      all_goals go_roundw
      case rel =>
        obtain ⟨g1, g2⟩ := own_storeMany (seg (fun i => .int .i32 (z i)) (k * 3) 3) (k * 3) HO.out
        rw [setMany_seg] at g1
        have g3 := grown_own HG.out g2 (Nat.le_refl _)
        refine ⟨k + 1, _, by omega, by go_num, fun i hi => ?_, g1.drew, grown_drew g3⟩
        by_cases c : k * 3 ≤ i
        · rw [if_pos (by omega)]
        · rw [if_neg (by omega)]; exact HF.out i (by omega)
      case measure => simp [intOf]; omega
    · obtain rfl : k = n := by omega
      clear hown hgr hhf
      go_wp2
      go_ret
      exact ⟨rfl, by rw [← seg_congr (f := h) (g := fun i => .int .i32 (z i)) (o := 0) (fun j hj => by rw [Nat.zero_add]; exact HF.out j hj)]; exact HO.out, HG.out⟩

def eZ (E : Nat → T3) (i : Nat) : Int := if i % 3 = 0 then (E (i / 3)).1 else if i % 3 = 1 then (E (i / 3)).2.1 else (E (i / 3)).2.2
theorem eF_eZ (E : Nat → T3) : eF E = fun i => .int .i32 (eZ E i) := by
  funext i; unfold eF eZ; repeat' split
  all_goals rfl
theorem zzEdgesOut_at (ao : Option Addr) (n c : Nat) (E : Nat → T3) (w : World) (hn : n ≤ 131072) (hcell : Cells w ao (n * 3) (eF E)) :
    Calls Try.prog 23 #[.slice ao n c] w fun e w' => e = .returned (.slice (some ⟨w.heap.size, 0, none⟩) n n) ∧ Cells w' (some ⟨w.heap.size, 0, none⟩) (n * 3) (eF E) ∧ w.grownBy w' none := by
  rw [eF_eZ] at hcell ⊢
  refine (zzEdgesOut_any ao n c (eZ E) w hn hcell).mono ?_
  rintro e w' ⟨rfl, h1, h2⟩
  exact ⟨rfl, cells_of_own h1, h2⟩
end Go.Proofs.Qxb6605286a
