/-
  ZZSort.
-/
import Derived.Test.Qxb6605286aSort
namespace Go.Proofs.Qxb6605286a
open Go.RowKit

set_option maxHeartbeats 2000000 in
set_option maxRecDepth 10000 in
theorem zzSort_any (a1 a2 : Option Addr) (n c1 m c2 : Nat) (zr z : Nat → Int) (w : World) (hn : n ≤ 16384) (hm : m ≤ 65536) (hC1 : Cells w a1 (n * 2) (fun i => .int .i64 (zr i)))
    (hC2 : Cells w a2 (m * 3) (fun i => .int .i32 (z i))) (hz : ∀ j, j < m → 0 ≤ z (j * 3) ∧ z (j * 3) < n ∧ 0 ≤ z (j * 3 + 1) ∧ z (j * 3 + 1) < n) :
    Calls Try.prog 9 #[.slice a1 n c1, .slice a2 m c2] w fun e w' => ∃ ao c L C, e = .returned (.tuple #[.slice ao L.length c, .bool (decide (L.length = n))]) ∧ w'.ownsRow w.heap.size 21 1 (.slice ao L.length c) L.length (L.map fun (x : Nat) => Value.int .i32 (x : Int)) ∧
      Fin n m (fun j => (z (j * 3)).toNat) (fun j => (z (j * 3 + 1)).toNat) L C ∧ w.grownBy w' none := by
  have HC1 : Hid (Cells w a1 (n * 2) (fun i => .int .i64 (zr i))) := hC1
  have HC2 : Hid (Cells w a2 (m * 3) (fun i => .int .i32 (z i))) := hC2
  have HZ : Hid (∀ j, j < m → 0 ≤ z (j * 3) ∧ z (j * 3) < n ∧ 0 ≤ z (j * 3 + 1) ∧ z (j * 3 + 1) < n) := hz
  clear hC1 hC2 hz
  go_enter Try.func9, Try.ntmps9
  go_wp2_with fail
  refine (zzRefsIn_any a1 n c1 zr w hn HC1.out).mono ?_
  rintro e w1 ⟨rfl, hown1, hgr1⟩
  have HO1 : Hid (w.grownBy w1 none) := hgr1
  have h1 := (hown1.lt w.heap.size rfl).2
  clear hown1 hgr1
  go_wp2_with fail
  refine (zzEdgesIn_any a2 m c2 z w1 hm (HC2.out.mono HO1.out (by simp))).mono ?_
  rintro e w2 ⟨rfl, hown2, hgr2⟩
  have HO2 : Hid (w2.ownsRow w1.heap.size 75 3 (.slice (some ⟨w1.heap.size, 0, none⟩) m m) m (seg (fun i => .int .i32 (z i)) 0 (m * 3))) := hown2
  have HG2 : Hid (w1.grownBy w2 none) := hgr2
  clear hown2 hgr2
  go_wp2_with fail
  have key : ∀ (O : Obj), O = .cells #[Value.pointer none, Value.slice (some { block := w.heap.size, off := 0 }) n n, Value.slice none 0 0, Value.slice none 0 0, Value.slice none 0 0, Value.slice none 0 0, Value.map none, Value.slice (some { block := w1.heap.size, off := 0 }) m m, Value.slice none 0 0] 61 →
      Calls Try.prog 20 #[.pointer (some ⟨w2.heap.size, 0, none⟩)] (w2.alloc O) fun e w' => ∃ ao c L C, e = .returned (.tuple #[.slice ao L.length c, .bool (decide (L.length = n))]) ∧ w'.ownsRow (w2.alloc O).heap.size 21 1 (.slice ao L.length c) L.length (L.map fun (x : Nat) => Value.int .i32 (x : Int)) ∧
      Fin n m (fun j => (z (j * 3)).toNat) (fun j => (z (j * 3 + 1)).toNat) L C ∧ (w2.alloc O).grownBy w' none := by
    intro O hO
    subst hO
    exact sort_any w2.heap.size _ _ n n m m z _ hn hm (cell_of_row _ _ _ _ 61 (0, 0) (heap_alloc_new w2 _)) (cell_of_row _ _ _ _ 61 (0, 0) (heap_alloc_new w2 _)) (cells_of_own (HO2.out.alloc _)) HZ.out
  refine (key _ rfl).mono ?_
  rintro e w3 ⟨ao, c, L, C, rfl, hown3, hfin, hgr3⟩
  have HO3 : Hid (w3.ownsRow w.heap.size 21 1 (.slice ao L.length c) L.length (L.map fun (x : Nat) => Value.int .i32 (x : Int))) := own_base hown3 (by have a := HO1.out.size; have b := HG2.out.size; simp; omega)
  have HF : Hid (Fin n m (fun j => (z (j * 3)).toNat) (fun j => (z (j * 3 + 1)).toNat) L C) := hfin
  have HG3 : Hid (w.grownBy w3 none) := grown_trans (grown_trans HO1.out HG2.out) (grown_alloc hgr3)
  clear hown3 hfin hgr3 key
  go_wp2
  go_ret2
  exact ⟨ao, c, L, C, rfl, HO3.out, HF.out, HG3.out⟩
end Go.Proofs.Qxb6605286a
