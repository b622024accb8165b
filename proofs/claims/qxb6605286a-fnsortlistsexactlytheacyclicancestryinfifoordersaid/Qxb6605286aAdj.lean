/-
  adjacency(nil): the edges from each transaction, in their order.
-/
import Derived.Test.Qxb6605286aAdjP
import Derived.Deep.RegionLaw
namespace Go.Proofs.Qxb6605286a
open Go.RowKit

set_option maxHeartbeats 2000000 in
set_option maxRecDepth 10000 in
theorem adj_any (G : Nat) (Ra Ea : Option Addr) (n cR m cE : Nat) (z : Nat → Int) (w : World) (hn : n ≤ 16384) (hm : m ≤ 65536) (hR : w.cell? ⟨G, 1, none⟩ = some (.slice Ra n cR)) (hE : w.cell? ⟨G, 7, none⟩ = some (.slice Ea m cE))
    (hC : Cells w Ea (m * 3) (fun i => .int .i32 (z i))) (hz : ∀ j, j < m → 0 ≤ z (j * 3) ∧ z (j * 3) < n) :
    Calls Try.prog 24 #[.pointer (some ⟨G, 0, none⟩), .nilFunc] w fun e w' => e = .returned (.slice (some ⟨w.heap.size, 0, none⟩) n n) ∧ (∃ rows, Adj w' w.heap.size n rows z (outs (fun j => (z (j * 3)).toNat) m)) ∧ w.grownBy w' none := by
  obtain ⟨i0, hi, hz0, hz1, hz2⟩ := info_parts Try.info53
  obtain ⟨i1, hi1, hy0, hy1, hy2⟩ := info_parts Try.info75
  have hnf := eql_nilFunc
  have HC : Hid (Cells w Ea (m * 3) (fun i => .int .i32 (z i))) := hC
  have HZ : Hid (∀ j, j < m → 0 ≤ z (j * 3) ∧ z (j * 3) < n) := hz
  clear hC hz
  go_enter Try.func24, Try.ntmps24
  go_wp2_with (at_make; refine wpList_make_full _ rfl _ _ 63 rfl w.heap.size 53 i0 (.slice none 0 0) 1 Try.underlying63 hi hz0 hz1 _ _ _ _ n rfl rfl rfl rfl ?b1 ?b2 ?b3 ?_)
  case b1 => rw [hz2]; omega
  case b2 => unfold maxLen; omega
  case b3 => exact Nat.le_refl _
  intro w1 hown1 hgr1
  have HA1 : Hid (Adj w1 w.heap.size n (fun _ => .slice none 0 0) z (outs (fun j => (z (j * 3)).toNat) 0)) := ⟨by rw [← adj_zero]; exact hown1, fun u _ => by rw [show outs (fun j => (z (j * 3)).toNat) 0 u = [] from rfl]; exact World.ownsRow_nil _ _ _ _, fun u v _ _ _ => .inl rfl⟩
  have HG1 : Hid (w.grownBy w1 none) := hgr1
  have hE1 : w1.cell? ⟨G, 7, none⟩ = some (.slice Ea m cE) := by
    rw [grown_cell hgr1 (World.block_lt_of_cell? w _ hE) (by simp)]; exact hE
  clear hown1 hgr1
  go_wp2
  go_loopw [19] (fun i wr => ∃ (k : Nat) (rows : Nat → Value), k ≤ m ∧ i = .int .i64 k ∧ Adj wr w.heap.size n rows z (outs (fun j => (z (j * 3)).toNat) k) ∧ w.grownBy wr none) (fun i _ => m - (intOf i).toNat)
  case atStart => exact ⟨0, _, Nat.zero_le _, rfl, HA1.out, HG1.out⟩
  case round =>
    clear HA1 HG1 hE1 hR hE
    obtain ⟨k, rows, hk, rfl, hadj, hgr⟩ := hrel
    have HA : Hid (Adj wr w.heap.size n rows z (outs (fun j => (z (j * 3)).toNat) k)) := hadj
    have HG : Hid (w.grownBy wr none) := hgr
    by_cases hlt : k < m
    · obtain ⟨b, off, ex, hb, hcl⟩ := HC.out.at (by omega)
      subst ex
      have c0 : wr.cell? ⟨b, off + k * 3, none⟩ = some (.int .i32 (z (k * 3))) := by rw [grown_cell hgr hb (by simp)]; exact hcl (k * 3) (by omega)
      have c1 : wr.cell? ⟨b, off + k * 3 + 1, none⟩ = some (.int .i32 (z (k * 3 + 1))) := by rw [Nat.add_assoc, grown_cell hgr hb (by simp)]; exact hcl (k * 3 + 1) (by omega)
      have c2 : wr.cell? ⟨b, off + k * 3 + 2, none⟩ = some (.int .i32 (z (k * 3 + 2))) := by rw [Nat.add_assoc, grown_cell hgr hb (by simp)]; exact hcl (k * 3 + 2) (by omega)
      obtain ⟨hz1', hz2'⟩ := HZ.out k hlt
      obtain ⟨u, hu⟩ : ∃ u : Nat, z (k * 3) = u := ⟨(z (k * 3)).toNat, by omega⟩
      have hun : u < n := by omega
      have HU : Hid (z (k * 3) = u) := hu
      rw [hu] at c0
      have c3 : wr.cell? ⟨w.heap.size, u, none⟩ = some (rows u) := by rw [hadj.1.cellAt u (by omega), seg_at _ _ _ _ hun, Nat.zero_add]
      have c4 := hadj.1.frozenAt u
      have hsz : w.heap.size < wr.heap.size := World.block_lt_of_cell? wr _ c3
      have HROW : Hid (wr.ownsRow (w.heap.size + 1) 75 3 (rows u) (outs (fun j => (z (j * 3)).toNat) k u).length (flat z (outs (fun j => (z (j * 3)).toNat) k u))) := hadj.2.1 u hun
      have hlen := outs_le (fun j => (z (j * 3)).toNat) k u
      obtain ⟨l, hl⟩ : ∃ l, l = (outs (fun j => (z (j * 3)).toNat) k u).length := ⟨_, rfl⟩
      rw [← hl] at HROW hlen
      obtain ⟨xs, hxs⟩ : ∃ xs, xs = flat z (outs (fun j => (z (j * 3)).toNat) k u) := ⟨_, rfl⟩
      rw [← hxs] at HROW
      obtain ⟨z1, hz1⟩ : ∃ x, x = z (k * 3 + 1) := ⟨_, rfl⟩
      obtain ⟨z2, hz2⟩ : ∃ x, x = z (k * 3 + 2) := ⟨_, rfl⟩
      rw [← hz1] at c1
      rw [← hz2] at c2
      obtain ⟨ru, hru⟩ : ∃ x, x = rows u := ⟨_, rfl⟩
      rw [← hru] at c3 HROW
      obtain ⟨ro, rn, rc, hform⟩ : ∃ ro rn rc, ru = .slice ro rn rc := by
        rcases HROW.out.2 with ⟨e, _⟩ | ⟨g, cap, cur, e, _⟩
        · exact ⟨_, _, _, e⟩
        · exact ⟨_, _, _, e⟩
      subst hform
      have HL : Hid (l = (outs (fun j => (z (j * 3)).toNat) k u).length) := hl
      have HXS : Hid (xs = flat z (outs (fun j => (z (j * 3)).toNat) k u)) := hxs
      have HRU : Hid (Value.slice ro rn rc = rows u) := hru
      have HZ1 : Hid (z1 = z (k * 3 + 1)) := hz1
      have HZ2 : Hid (z2 = z (k * 3 + 2)) := hz2
      have hob : ∀ b, (Value.slice ro rn rc).ownBlock = some b → w.heap.size + 1 ≤ b ∧ b < wr.heap.size := fun b hb => HROW.out.lt b hb
      have HOB : Hid (∀ b, (Value.slice ro rn rc).ownBlock = some b → w.heap.size + 1 ≤ b ∧ b < wr.heap.size) := hob
      clear hadj hgr hcl hu hl hxs hz1 hz2 hru hz1' hz2' hob
      go_wp2
      go_region_law (refine step_append_lies _ rfl (.tmp 37) (.tmp 39) 53 rfl (w.heap.size + 1) 75 i1 (.agg #[.int .i32 0, .int .i32 0, .int .i32 0]) 3 12 Try.underlying53 hi1 hy0 hy1 hy2 rfl (by decide) (.slice ro rn rc) l xs (by simp [Act.eval]) (((HROW.out.alloc _).alloc _).drew) ⟨wr.heap.size + 1, 0, none⟩ 1 1 [.int .i32 (u : Int), .int .i32 z1, .int .i32 z2] (by simp [Act.eval]) rfl (news3 (wr.alloc (.cells #[.int .i32 (u : Int), .int .i32 z1, .int .i32 z2] 75)) _ _ _ 75 (wr.heap.size + 1) (by simp)) (ones3 _ _ _) (by omega) (by unfold maxLen; omega) (by omega) (by simp; omega) (wr.heap.size + 2) (by simp) ?_; intro g cap w1 hown hgrow hat hlt1; have q1 := far_old hgrow c3 (ne_row1 HOB.out); have q2 := far_frozen hgrow c4 hsz (ne_row1 HOB.out); have q3 := far_new hgrow (ne_row2 HOB.out))
      all_goals
        have hg2 : ((wr.alloc (.cells #[.int .i32 (u : Int), .int .i32 z1, .int .i32 z2] 75)).alloc (.cells #[.int .i32 (u : Int), .int .i32 z1, .int .i32 z2] 75)).drew.grownBy w1 (rows u).ownBlock := by rw [← HRU.out]; exact hgrow
        have R := adj_step HA.out HG.out hun HU.out HL.out HXS.out (by rw [← HZ1.out, ← HZ2.out]; exact hown) hg2 (by rw [← HRU.out]; exact hat)
        have HR : Hid _ := R
        clear R hg2 hown hgrow hat q1 q2 q3 HROW HOB
        go_wp2
        go_roundw
        case rel => exact ⟨k + 1, _, by omega, by go_num, HR.out.1, HR.out.2⟩
        case measure => simp [intOf]; omega
    · obtain rfl : k = m := by omega
      clear hadj hgr
      go_wp2
      go_ret
      exact ⟨rfl, ⟨rows, HA.out⟩, HG.out⟩
end Go.Proofs.Qxb6605286a
