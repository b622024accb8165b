/-
  copyInt32s, copyReasons: a copy in memory of its own.
-/
import Derived.Test.Qxb6605286aCopy
namespace Go.Proofs.Qxb6605286a
open Go.RowKit

theorem Try.info21c : (Try.prog.info? 21).map (fun i => (i.zero, i.size, i.bytes)) = some (some (.int .i32 0), 1, 4) := by kernel_rfl

set_option maxHeartbeats 1000000 in
set_option maxRecDepth 10000 in
theorem copyInt32s_some (x : Addr) (n c : Nat) (z : Nat → Int) (w : World) (hn : n ≤ 16384) (hcell : Cells w (some x) n (fun i => .int .i32 (z i))) :
    Calls Try.prog 13 #[.slice (some x) n c] w fun e w' => e = .returned (.slice (some ⟨w.heap.size, 0, none⟩) n n) ∧ w'.ownsRow w.heap.size 21 1 (.slice (some ⟨w.heap.size, 0, none⟩) n n) n (seg (fun i => .int .i32 (z i)) 0 (n * 1)) ∧ w.grownBy w' none := by
  have hnil := fun w a n c n' c' => Lib.run_eql_slice_nil (P := Try.prog) w 28 21 a n c n' c' Try.underlying28
  obtain ⟨i0, hi, hz0, hz1, hz2⟩ := info_parts Try.info21c
  have HC : Hid (Cells w (some x) n (fun i => .int .i32 (z i))) := hcell
  clear hcell
  go_enter Try.func13, Try.ntmps13
  go_wp2_with (at_make; refine wpList_make_full _ rfl _ _ 28 rfl w.heap.size 21 i0 (.int .i32 0) 1 Try.underlying28 hi hz0 hz1 _ _ _ _ n rfl rfl rfl rfl ?b1 ?b2 ?b3 ?_)
  case b1 => rw [hz2]; omega
  case b2 => unfold maxLen; omega
  case b3 => exact Nat.le_refl _
  intro w1 hown1 hgr1
  have HO1 : Hid (∃ h : Nat → Value, w1.ownsRow w.heap.size 21 1 (.slice (some ⟨w.heap.size, 0, none⟩) n n) n (seg h 0 (n * 1))) := own_fn hown1
  have HG1 : Hid (w.grownBy w1 none) := hgr1
  clear hown1 hgr1
  go_wp2
  go_loopw [12] (fun i wr => ∃ (k : Nat) (h : Nat → Value), k ≤ n ∧ i = .int .i64 k ∧ (∀ i, i < k → h i = .int .i32 (z i)) ∧ wr.ownsRow w.heap.size 21 1 (.slice (some ⟨w.heap.size, 0, none⟩) n n) n (seg h 0 (n * 1)) ∧ w.grownBy wr none) (fun i _ => n - (intOf i).toNat)
  case atStart =>
    obtain ⟨h, hh⟩ := HO1.out
    exact ⟨0, h, Nat.zero_le _, rfl, fun i hi => by omega, hh, HG1.out⟩
  case round =>
    clear HO1 HG1
    obtain ⟨k, h, hk, rfl, hhf, hown, hgr⟩ := hrel
    have HO : Hid (wr.ownsRow w.heap.size 21 1 (.slice (some ⟨w.heap.size, 0, none⟩) n n) n (seg h 0 (n * 1))) := hown
    have HG : Hid (w.grownBy wr none) := hgr
    have HF : Hid (∀ i, i < k → h i = .int .i32 (z i)) := hhf
    by_cases hlt : k < n
    · obtain ⟨b, off, ex, hb, hcl⟩ := HC.out.at (by omega)
      obtain rfl := Option.some.inj ex
      have c0 : wr.cell? ⟨b, off + k, none⟩ = some (.int .i32 (z k)) := by rw [grown_cell hgr hb (by simp)]; exact hcl k (by omega)
      have d0 : wr.cell? ⟨w.heap.size, k, none⟩ = some (h k) := by
        rw [hown.cellAt _ (by omega), seg_at _ _ _ _ (by omega), Nat.zero_add]
      have e0 := hown.frozenAt k
      clear hown hgr hhf hcl ex
      go_wp2
      go_roundw
      case rel =>
        obtain ⟨s1, s2⟩ := HO.out.stored k (.int .i32 (z k))
        rw [seg_set] at s1
        refine ⟨k + 1, _, by omega, by go_num, fun i hi => ?_, s1, grown_own HG.out s2 (Nat.le_refl _)⟩
        by_cases c : i = k
        · rw [if_pos c, c]
        · rw [if_neg c]; exact HF.out i (by omega)
      case measure => simp [intOf]; omega
    · obtain rfl : k = n := by omega
      clear hown hgr hhf
      go_wp2
      go_ret
      exact ⟨rfl, by rw [← seg_congr (f := h) (g := fun i => .int .i32 (z i)) (o := 0) (fun j hj => by rw [Nat.zero_add]; exact HF.out j (by omega))]; exact HO.out, HG.out⟩

theorem copyInt32s_nil (w : World) : Calls Try.prog 13 #[.slice none 0 0] w fun e w' => e = .returned (.slice none 0 0) ∧ w' = w := by
  have hnil := fun w a n c n' c' => Lib.run_eql_slice_nil (P := Try.prog) w 28 21 a n c n' c' Try.underlying28
  go_enter Try.func13, Try.ntmps13
  go_wp2
  go_ret
  exact ⟨rfl, rfl⟩

theorem copyInt32s_any (ao : Option Addr) (n c : Nat) (z : Nat → Int) (w : World) (hn : n ≤ 16384) (hnil : ao = none → n = 0 ∧ c = 0) (hcell : Cells w ao n (fun i => .int .i32 (z i))) :
    Calls Try.prog 13 #[.slice ao n c] w fun e w' => ∃ ao' c', e = .returned (.slice ao' n c') ∧ Cells w' ao' n (fun i => .int .i32 (z i)) ∧ w.grownBy w' none := by
  cases ao with
  | none =>
    obtain ⟨rfl, rfl⟩ := hnil rfl
    refine (copyInt32s_nil w).mono ?_
    rintro e w' ⟨rfl, rfl⟩
    exact ⟨none, 0, rfl, ⟨fun _ => rfl, fun x hx => nomatch hx⟩, grown_refl _ _⟩
  | some x =>
    refine (copyInt32s_some x n c z w hn hcell).mono ?_
    rintro e w' ⟨rfl, h2, h3⟩
    refine ⟨_, n, rfl, ?_, h3⟩
    have := cells_of_own h2
    rwa [Nat.mul_one] at this

theorem Try.info45copyReasons : (Try.prog.info? 45).map (fun i => (i.zero, i.size, i.bytes)) = some (some (.agg #[.int .i64 0, .int .i64 0, .int .i64 0, .int .i32 0]), 4, 32) := by kernel_rfl
theorem Try.size45copyReasons : (Try.prog.info? 45).map (·.size) = some 4 := by kernel_rfl

set_option maxHeartbeats 1000000 in
set_option maxRecDepth 10000 in
theorem copyReasons_some (x : Addr) (n c : Nat) (f : Nat → Value) (w : World) (hn : n ≤ 16384) (h1 : ∀ i, (f i).oneCell' = true) (hcell : Cells w (some x) (n * 4) f) :
    Calls Try.prog 15 #[.slice (some x) n c] w fun e w' => e = .returned (.slice (some ⟨w.heap.size, 0, none⟩) n n) ∧ w'.ownsRow w.heap.size 45 4 (.slice (some ⟨w.heap.size, 0, none⟩) n n) n (seg f 0 (n * 4)) ∧ w.grownBy w' none := by
  have hnil := fun w a n c n' c' => Lib.run_eql_slice_nil (P := Try.prog) w 38 45 a n c n' c' Try.underlying38
  obtain ⟨i0, hi, hz0, hz1, hz2⟩ := info_parts Try.info45copyReasons
  have HC : Hid (Cells w (some x) (n * 4) f) := hcell
  have H1 : Hid (∀ i, (f i).oneCell' = true) := h1
  clear hcell h1
  go_enter Try.func15, Try.ntmps15
  go_wp2_with (at_make; refine wpList_make_full _ rfl _ _ 38 rfl w.heap.size 45 i0 (.agg #[.int .i64 0, .int .i64 0, .int .i64 0, .int .i32 0]) 4 Try.underlying38 hi hz0 hz1 _ _ _ _ n rfl rfl rfl rfl ?b1 ?b2 ?b3 ?_)
  case b1 => rw [hz2]; omega
  case b2 => unfold maxLen; omega
  case b3 => exact Nat.le_refl _
  intro w1 hown1 hgr1
  have HO1 : Hid (∃ h : Nat → Value, w1.ownsRow w.heap.size 45 4 (.slice (some ⟨w.heap.size, 0, none⟩) n n) n (seg h 0 (n * 4))) := own_fn hown1
  have HG1 : Hid (w.grownBy w1 none) := hgr1
  clear hown1 hgr1
  go_wp2
  go_loopw [12] (fun i wr => ∃ (k : Nat) (h : Nat → Value), k ≤ n ∧ i = .int .i64 k ∧ (∀ i, i < k * 4 → h i = f i) ∧ wr.ownsRow w.heap.size 45 4 (.slice (some ⟨w.heap.size, 0, none⟩) n n) n (seg h 0 (n * 4)) ∧ w.grownBy wr none) (fun i _ => n - (intOf i).toNat)
  case atStart =>
    obtain ⟨h, hh⟩ := HO1.out
    exact ⟨0, h, Nat.zero_le _, rfl, fun i hi => by omega, hh, HG1.out⟩
  case round =>
    clear HO1 HG1
    obtain ⟨k, h, hk, rfl, hhf, hown, hgr⟩ := hrel
    have HO : Hid (wr.ownsRow w.heap.size 45 4 (.slice (some ⟨w.heap.size, 0, none⟩) n n) n (seg h 0 (n * 4))) := hown
    have HG : Hid (w.grownBy wr none) := hgr
    have HF : Hid (∀ i, i < k * 4 → h i = f i) := hhf
    by_cases hlt : k < n
    · obtain ⟨b, off, ex, hb, hcl⟩ := HC.out.at (by omega)
      obtain rfl := Option.some.inj ex
      have hsrc : wr.rangeAt b (off + k * 4) (seg f (k * 4) 4) := by
        intro j v hv
        obtain ⟨hj, rfl⟩ := seg_get hv
        rw [Nat.add_assoc, grown_cell hgr hb (by simp)]
        exact hcl (k * 4 + j) (by omega)
      have hdst : wr.there w.heap.size (k * 4) 4 := own_there hown (by omega)
      have hones : ((seg f (k * 4) 4).toArray).all (·.oneCell') = true := all_oneCell_toArray (seg_one fun j _ => H1.out _)
      have HSRC : Hid (wr.rangeAt b (off + k * 4) (seg f (k * 4) 4)) := hsrc
      have HDST : Hid (wr.there w.heap.size (k * 4) 4) := hdst
      have HONE : Hid (((seg f (k * 4) 4).toArray).all (·.oneCell') = true) := hones
      obtain ⟨S, hS⟩ : ∃ S, S = seg f (k * 4) 4 := ⟨_, rfl⟩
      have HS : Hid (S = seg f (k * 4) 4) := hS
      have HSL : Hid (S.length = 4) := (show S.length = 4 by rw [hS, seg_len])
      rw [← hS] at HSRC HONE
      have eSz : S.toArray.size = 4 := HSL.out
      have hdst2 : wr.there w.heap.size (k * 4) S.toArray.size := by rw [eSz]; exact hdst
      have HDS : Hid (wr.there w.heap.size (k * 4) S.toArray.size) := hdst2
      have hsz2 : (Try.prog.info? 45).map (·.size) = some S.toArray.size := by rw [eSz]; exact Try.size45copyReasons
      have HSZ : Hid ((Try.prog.info? 45).map (·.size) = some S.toArray.size) := hsz2
      clear hdst2 hsz2 eSz
      clear hown hgr hhf hcl hsrc hdst hones ex hS
      go_wp2_with (first | (refine wpList_load_mid rfl 45 _ rfl b (off + k * 4) rfl S _ HSRC.out Try.underlying45 rfl HSZ.out ?_) | (refine wpList_store_mid rfl 45 _ _ rfl w.heap.size (k * 4) S.toArray rfl rfl HDS.out HSZ.out HONE.out ?_))
      go_roundw
      case rel =>
        obtain ⟨g1, g2⟩ := own_storeMany (seg f (k * 4) 4) (k * 4) HO.out
        rw [setMany_seg] at g1
        have g3 := grown_own HG.out g2 (Nat.le_refl _)
        rw [← HS.out] at g1 g3
        refine ⟨k + 1, _, by omega, by go_num, fun i hi => ?_, by simpa using g1, by simpa using g3⟩
        by_cases c : k * 4 ≤ i
        · rw [if_pos (by omega)]
        · rw [if_neg (by omega)]; exact HF.out i (by omega)
      case measure => simp [intOf]; omega
    · obtain rfl : k = n := by omega
      clear hown hgr hhf
      go_wp2
      go_ret
      exact ⟨rfl, by rw [← seg_congr (f := h) (g := f) (o := 0) (fun j hj => by rw [Nat.zero_add]; exact HF.out j hj)]; exact HO.out, HG.out⟩

theorem copyReasons_nil (w : World) : Calls Try.prog 15 #[.slice none 0 0] w fun e w' => e = .returned (.slice none 0 0) ∧ w' = w := by
  have hnil := fun w a n c n' c' => Lib.run_eql_slice_nil (P := Try.prog) w 38 45 a n c n' c' Try.underlying38
  go_enter Try.func15, Try.ntmps15
  go_wp2
  go_ret
  exact ⟨rfl, rfl⟩

theorem copyReasons_any (ao : Option Addr) (n c : Nat) (f : Nat → Value) (w : World) (hn : n ≤ 16384) (h1 : ∀ i, (f i).oneCell' = true) (hnil : ao = none → n = 0 ∧ c = 0) (hcell : Cells w ao (n * 4) f) :
    Calls Try.prog 15 #[.slice ao n c] w fun e w' => ∃ ao' c', e = .returned (.slice ao' n c') ∧ w'.ownsRow w.heap.size 45 4 (.slice ao' n c') n (seg f 0 (n * 4)) ∧ w.grownBy w' none := by
  cases ao with
  | none =>
    obtain ⟨rfl, rfl⟩ := hnil rfl
    refine (copyReasons_nil w).mono ?_
    rintro e w' ⟨rfl, rfl⟩
    exact ⟨none, 0, rfl, World.ownsRow_nil _ _ _ _, grown_refl _ _⟩
  | some x =>
    refine (copyReasons_some x n c f w hn h1 hcell).mono ?_
    rintro e w' ⟨rfl, h2, h3⟩
    exact ⟨_, n, rfl, h2, h3⟩
end Go.Proofs.Qxb6605286a
