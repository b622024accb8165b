/-
  b1CopyBytes: a copy in memory of its own.
-/
import Derived.Test.Qxb6605287aRows
import Derived.WalkKit
import Derived.WalkLawsBesides
import Derived.WalkSpells
import Derived.Deep.DeepCutAuto
namespace Go.Proofs.Qxb6605287a
open Go.RowKit

theorem Try.info5 : (Try.prog.info? 5).map (fun i => (i.zero, i.size, i.bytes)) = some (some (.int .u8 0), 1, 1) := by kernel_rfl

theorem copy_nil (w : World) :
    Calls Try.prog 8 #[.slice none 0 0] w fun e w' => e = .returned (.slice none 0 0) ∧ w' = w := by
  have hnil := fun w a n c n' c' => Lib.run_eql_slice_nil (P := Try.prog) w 22 5 a n c n' c' Try.underlying22
  go_enter Try.func8, Try.ntmps8
  go_wp2
  go_ret
  exact ⟨rfl, rfl⟩

set_option maxHeartbeats 1000000 in
theorem copy_any (x : Addr) (n c : Nat) (zs : List Int) (w : World) (hn : n ≤ 1048576) (hl : zs.length = n) (hcell : ∀ i, i < n → w.cell? (x.add i) = some (.int .u8 (zs.getD i 0))) :
    Calls Try.prog 8 #[.slice (some x) n c] w fun e w' => e = .returned (.slice (some ⟨w.heap.size, 0, none⟩) n n) ∧ w'.ownsRow w.heap.size 5 1 (.slice (some ⟨w.heap.size, 0, none⟩) n n) n (zs.map (Value.int .u8)) ∧ w.grownBy w' none := by
  have hnil := fun w a n c n' c' => Lib.run_eql_slice_nil (P := Try.prog) w 22 5 a n c n' c' Try.underlying22
  obtain ⟨i0, hi, hz0, hz1, hz2⟩ := info_parts Try.info5
  go_enter Try.func8, Try.ntmps8
  go_wp2_with (at_make; refine wpList_make_full _ rfl _ _ 22 rfl w.heap.size 5 i0 (.int .u8 0) 1 Try.underlying22 hi hz0 hz1 _ _ _ _ n rfl rfl rfl rfl ?b1 ?b2 ?b3 ?_)
  case b1 => rw [hz2]; omega
  case b2 => unfold maxLen; omega
  case b3 => exact Nat.le_refl _
  intro w1 hown1 hgr1
  have HO1 : Hid (w1.ownsRow w.heap.size 5 1 (.slice (some ⟨w.heap.size, 0, none⟩) n n) n (madeCells #[Value.int IntKind.u8 0] n).toList) := hown1
  have HG1 : Hid (w.grownBy w1 none) := hgr1
  have HC : Hid (∀ i, i < n → w.cell? (x.add i) = some (.int .u8 (zs.getD i 0))) := hcell
  clear hown1 hgr1 hcell
  go_wp2
  go_loopw [4] (fun i wr => ∃ (k : Nat) (xs : List Value), k ≤ n ∧ i = .int .i64 k ∧ xs.take k = (zs.take k).map (Value.int .u8) ∧ wr.ownsRow w.heap.size 5 1 (.slice (some ⟨w.heap.size, 0, none⟩) n n) n xs ∧ w.grownBy wr none) (fun i _ => n - (intOf i).toNat)
  case atStart => exact ⟨0, _, Nat.zero_le _, rfl, by simp, HO1.out, HG1.out⟩
  case round =>
    clear HO1 HG1
    obtain ⟨k, xs, hk, rfl, hxs, hown, hgr⟩ := hrel
    have HO : Hid (wr.ownsRow w.heap.size 5 1 (.slice (some ⟨w.heap.size, 0, none⟩) n n) n xs) := hown
    have HG : Hid (w.grownBy wr none) := hgr
    have HX : Hid (xs.take k = (zs.take k).map (Value.int .u8)) := hxs
    have hxl : xs.length = n := by simpa using hown.1
    have HXL : Hid (xs.length = n) := hxl
    have HZL : Hid (zs.length = n) := hl
    by_cases hlt : k < n
    · obtain ⟨b, off, sp⟩ := x
      have hsp : sp = none := by simpa [Addr.add] using World.cell?_spot (HC.out 0 (by omega))
      subst hsp
      have hck : w.cell? ⟨b, off + k, none⟩ = some (.int .u8 (zs.getD k 0)) := by rw [← Addr.add_lit]; exact HC.out k hlt
      have hb : b < w.heap.size := World.block_lt_of_cell? w _ hck
      have hsrc : wr.cell? ⟨b, off + k, none⟩ = some (.int .u8 (zs.getD k 0)) := by
        rw [World.cell?_of_block (hgr.block b hb (by simp))]; exact hck
      have hdst : wr.cell? ⟨w.heap.size, k, none⟩ = some xs[k] := by
        rw [hown.cellAt k (by omega)]; simp
      have hfr := hown.frozenAt k
      obtain ⟨x, hx⟩ : ∃ x, x = zs.getD k 0 := ⟨_, rfl⟩
      rw [← hx] at hsrc
      have HXX : Hid (x = zs.getD k 0) := hx
      obtain ⟨y, hy⟩ : ∃ y, y = xs[k] := ⟨_, rfl⟩
      rw [← hy] at hdst
      clear hown hgr hxs hxl hx hy hl hck HC
      go_wp2
      go_roundw
      case rel =>
        refine ⟨k + 1, xs.set k (.int .u8 x), by omega, by go_num, ?_, (HO.out.stored k _).1, ?_⟩
        · have h1 := HXL.out
          have h2 := HZL.out
          rw [List.take_add_one, List.take_set_of_le (Nat.le_refl _), HX.out, List.take_add_one, List.map_append]
          congr 1
          rw [List.getElem?_set_self (by omega), HXX.out]
          simp [List.getD, h2, hlt]
        · have hg := (HO.out.stored k (.int .u8 x)).2
          exact ⟨hg.os.trans HG.out.os, hg.tape.trans HG.out.tape, hg.output.trans HG.out.output, Nat.le_trans HG.out.size hg.size, fun j hj _ => by
            rw [hg.block j (Nat.lt_of_lt_of_le hj HG.out.size) (by intro e; injection e; omega)]; exact HG.out.block j hj (by simp)⟩
      case measure => simp [intOf]; omega
    · obtain rfl : k = n := by omega
      have e1 : xs = zs.map (Value.int .u8) := by
        have h1 := hxs
        rw [List.take_of_length_le (by omega), List.take_of_length_le (by omega)] at h1
        exact h1
      have E1 : Hid (xs = zs.map (Value.int .u8)) := e1
      clear hown hgr hxs hxl e1 hl
      go_wp2
      go_ret
      exact ⟨rfl, by rw [← E1.out]; exact HO.out, HG.out⟩

/-- Whatever the slice: nil, empty, or a row. -/
theorem copy_row (a : Option Addr) (n c : Nat) (zs : List Int) (w : World) (hn : n ≤ 1048576) (hl : zs.length = n) (hnil : a = none → n = 0 ∧ c = 0) (hcell : ∀ x, a = some x → ∀ i, i < n → w.cell? (x.add i) = some (.int .u8 (zs.getD i 0))) :
    Calls Try.prog 8 #[.slice a n c] w fun e w' => ∃ ao c', e = .returned (.slice ao n c') ∧ w'.ownsRow w.heap.size 5 1 (.slice ao n c') n (zs.map (Value.int .u8)) ∧ w.grownBy w' none := by
  cases a with
  | none =>
    obtain ⟨rfl, rfl⟩ := hnil rfl
    refine (copy_nil w).mono ?_
    rintro e w' ⟨rfl, rfl⟩
    have : zs = [] := List.eq_nil_of_length_eq_zero hl
    subst this
    exact ⟨none, 0, rfl, World.ownsRow_nil _ _ _ _, World.grownBy.refl _ _⟩
  | some x =>
    refine (copy_any x n c zs w hn hl (hcell x rfl)).mono ?_
    rintro e w' ⟨rfl, h1, h2⟩
    exact ⟨_, n, rfl, h1, h2⟩
end Go.Proofs.Qxb6605287a
