/-
  MEMORY OF THE CALL's OWN, AS FUNCTIONS: no function of the program in sight.
-/
import Derived.WalkKit
import Derived.Deep.MidRow
import Derived.Deep.AppendLies
namespace Go.Proofs.Qxb6605286a
open Go.RowKit

/-- The cells f o, .., f (o + n - 1). -/
def seg (f : Nat → Value) (o n : Nat) : List Value := (List.range n).map fun j => f (o + j)
theorem seg_len (f : Nat → Value) (o n : Nat) : (seg f o n).length = n := by simp [seg]
theorem seg_at (f : Nat → Value) (o n j : Nat) (h : j < n) : (seg f o n)[j]? = some (f (o + j)) := by simp [seg, h]
theorem seg_out (f : Nat → Value) (o n j : Nat) (h : n ≤ j) : (seg f o n)[j]? = none := by simp [seg, h]
theorem seg_get {f : Nat → Value} {o n j : Nat} {v : Value} (h : (seg f o n)[j]? = some v) : j < n ∧ v = f (o + j) := by
  by_cases hj : j < n
  · rw [seg_at f o n j hj] at h; exact ⟨hj, (Option.some.inj h).symm⟩
  · rw [seg_out f o n j (by omega)] at h; cases h
theorem seg_congr {f g : Nat → Value} {o n : Nat} (h : ∀ j, j < n → f (o + j) = g (o + j)) : seg f o n = seg g o n := by
  apply List.ext_getElem?
  intro j
  by_cases hj : j < n
  · rw [seg_at _ _ _ _ hj, seg_at _ _ _ _ hj, h j hj]
  · rw [seg_out _ _ _ _ (by omega), seg_out _ _ _ _ (by omega)]
theorem seg_snoc (f : Nat → Value) (o n : Nat) : seg f o (n + 1) = seg f o n ++ [f (o + n)] := by simp [seg, List.range_succ]
theorem seg_append (f : Nat → Value) (o n m : Nat) : seg f o (n + m) = seg f o n ++ seg f (o + n) m := by
  induction m with
  | zero => simp [seg]
  | succ m ih => rw [← Nat.add_assoc, seg_snoc, ih, seg_snoc, List.append_assoc, Nat.add_assoc]
theorem seg_set (f : Nat → Value) (n i : Nat) (v : Value) : (seg f 0 n).set i v = seg (fun j => if j = i then v else f j) 0 n := by
  apply List.ext_getElem?
  intro j
  by_cases hj : j < n
  · rw [seg_at _ _ _ _ hj]
    by_cases e : j = i
    · subst e
      rw [List.getElem?_set_self (by rw [seg_len]; exact hj)]
      simp
    · rw [List.getElem?_set_ne (by omega), seg_at _ _ _ _ hj]
      simp [e]
  · rw [seg_out _ _ _ _ (by omega), List.getElem?_eq_none (by rw [List.length_set, seg_len]; omega)]
theorem seg_one {f : Nat → Value} {o n : Nat} (h : ∀ j, j < n → (f (o + j)).oneCell' = true) : ∀ u ∈ seg f o n, u.oneCell' = true := by
  intro u hu
  obtain ⟨j, hj, rfl⟩ := List.mem_map.1 hu
  exact h j (List.mem_range.1 hj)

/-- Many stores. -/
def setMany (xs : List Value) (o : Nat) : List Value → List Value
  | [] => xs
  | v :: r => setMany (xs.set o v) (o + 1) r
theorem setMany_seg (h f : Nat → Value) (N o n : Nat) : setMany (seg h 0 N) o (seg f o n) = seg (fun i => if o ≤ i ∧ i < o + n then f i else h i) 0 N := by
  induction n generalizing h o with
  | zero =>
    show seg h 0 N = _
    exact seg_congr fun j _ => by rw [if_neg (by omega)]
  | succ n ih =>
    have e : seg f o (n + 1) = f o :: seg f (o + 1) n := by
      rw [show n + 1 = 1 + n by omega, seg_append]
      simp [seg]
    rw [e, setMany, seg_set, ih]
    refine seg_congr fun j _ => ?_
    rw [Nat.zero_add]
    by_cases c1 : o + 1 ≤ j ∧ j < o + 1 + n
    · rw [if_pos c1, if_pos (by omega)]
    · rw [if_neg c1]
      by_cases c2 : j = o
      · rw [if_pos c2, if_pos (by omega), c2]
      · rw [if_neg c2, if_neg (by omega)]

theorem grown_refl (w : World) (row : Option Nat) : w.grownBy w row := World.grownBy.refl w row
theorem grown_trans {w w1 w2 : World} {row : Option Nat} (h : w.grownBy w1 row) (h2 : w1.grownBy w2 row) : w.grownBy w2 row :=
  ⟨h2.os.trans h.os, h2.tape.trans h.tape, h2.output.trans h.output, Nat.le_trans h.size h2.size, fun k hk hne => by
    rw [h2.block k (Nat.lt_of_lt_of_le hk h.size) hne]; exact h.block k hk hne⟩
theorem grown_own {w wx w1 : World} {g : Nat} (h : w.grownBy wx none) (hg : wx.grownBy w1 (some g)) (hB : w.heap.size ≤ g) : w.grownBy w1 none :=
  ⟨hg.os.trans h.os, hg.tape.trans h.tape, hg.output.trans h.output, Nat.le_trans h.size hg.size, fun k hk _ => by
    rw [hg.block k (Nat.lt_of_lt_of_le hk h.size) (by intro e; injection e; omega)]; exact h.block k hk (by simp)⟩
theorem grown_own' {w wx w1 : World} {row : Option Nat} (h : w.grownBy wx none) (hg : wx.grownBy w1 row) (hB : ∀ g, row = some g → w.heap.size ≤ g) : w.grownBy w1 none := by
  cases row with
  | none => exact grown_trans h hg
  | some g => exact grown_own h hg (hB g rfl)
theorem grown_alloc {w w' : World} {o : Obj} {row : Option Nat} (h : (w.alloc o).grownBy w' row) : w.grownBy w' row :=
  ⟨h.os, h.tape, h.output, by have := h.size; simp at this; omega, fun k hk hne => by
    rw [h.block k (by simp; omega) hne]; exact Below.heap_alloc w o k hk⟩
theorem grown_below {w w' : World} (h : w.grownBy w' none) : Below w.heap.size w w' := (Below.refl _ _).grown h (Nat.le_refl _) (by intro k hk; cases hk)
theorem below_grown {w w' : World} (h : Below w.heap.size w w') : w.grownBy w' none := ⟨h.os, h.tape, h.output, h.size, fun k hk _ => h.block k hk⟩
theorem grown_drew {w w' : World} {row : Option Nat} (h : w.grownBy w' row) : w.grownBy w'.drew row := ⟨h.os, h.tape, h.output, h.size, h.block⟩
theorem grown_cell {w w' : World} {row : Option Nat} (hg : w.grownBy w' row) {b : Nat} (hlt : b < w.heap.size) (hne : some b ≠ row) (j : Nat) : w'.cell? ⟨b, j, none⟩ = w.cell? ⟨b, j, none⟩ :=
  World.cell?_of_block (hg.block b hlt hne)

/-- 'make' filled, or a copy: all cells of the block are known. -/
theorem own_storeMany {base : Nat} {e : TypeId} {size g n cap : Nat} : ∀ (vs : List Value) {w : World} {xs : List Value} (o : Nat), w.ownsRow base e size (.slice (some ⟨g, 0, none⟩) n cap) n xs →
    (w.setCells g o vs).ownsRow base e size (.slice (some ⟨g, 0, none⟩) n cap) n (setMany xs o vs) ∧ w.grownBy (w.setCells g o vs) (some g)
  | [], w, xs, o, h => ⟨h, grown_refl _ _⟩
  | v :: r, w, xs, o, h => by
    obtain ⟨h1, h2⟩ := h.stored o v
    obtain ⟨h3, h4⟩ := own_storeMany r (o + 1) h1
    exact ⟨h3, grown_trans h2 h4⟩
theorem own_there {w : World} {base : Nat} {e : TypeId} {size g n cap : Nat} {xs : List Value} (h : w.ownsRow base e size (.slice (some ⟨g, 0, none⟩) n cap) n xs) {o k : Nat} (hk : o + k ≤ n * size) : w.there g o k := by
  intro j hj
  refine ⟨?_, h.frozenAt _⟩
  rw [h.cellAt (o + j) (by omega)]
  have := h.1
  rw [List.getElem?_eq_getElem (by omega)]
  rfl
/-- An owned slice: its cells, if there are any. -/
def Cells (w : World) (ao : Option Addr) (N : Nat) (f : Nat → Value) : Prop := (ao = none → N = 0) ∧ ∀ x, ao = some x → ∀ i, i < N → w.cell? (x.add i) = some (f i)
theorem Cells.at {w : World} {ao : Option Addr} {N : Nat} {f : Nat → Value} (h : Cells w ao N f) (hN : 0 < N) : ∃ b off, ao = some ⟨b, off, none⟩ ∧ b < w.heap.size ∧ ∀ i, i < N → w.cell? ⟨b, off + i, none⟩ = some (f i) := by
  cases ao with
  | none => have := h.1 rfl; omega
  | some x =>
    obtain ⟨b, off, sp⟩ := x
    have h0 := h.2 _ rfl
    have hsp : sp = none := by simpa [Addr.add] using World.cell?_spot (h0 0 hN)
    subst hsp
    have hc : ∀ i, i < N → w.cell? ⟨b, off + i, none⟩ = some (f i) := fun i hi => by rw [← Addr.add_lit]; exact h0 i hi
    exact ⟨b, off, rfl, World.block_lt_of_cell? w _ (hc 0 hN), hc⟩
theorem cells_of_own {w : World} {base : Nat} {e : TypeId} {size : Nat} {ao : Option Addr} {n c : Nat} {f : Nat → Value} (h : w.ownsRow base e size (.slice ao n c) n (seg f 0 (n * size))) : Cells w ao (n * size) f := by
  rcases h.2 with ⟨e1, e2⟩ | ⟨g, cap, cur, e1, _⟩
  · injection e1 with e1
    subst e1; subst e2
    exact ⟨fun _ => by omega, fun x hx => by cases hx⟩
  · injection e1 with e1 _ e3
    subst e1; subst e3
    refine ⟨fun hh => (by cases hh), fun x hx i hi => ?_⟩
    cases hx
    rw [Addr.add_lit, Nat.zero_add, h.cellAt i hi, seg_at _ _ _ _ hi, Nat.zero_add]
theorem Cells.mono {w w' : World} {ao : Option Addr} {N : Nat} {f : Nat → Value} (h : Cells w ao N f) {row : Option Nat} (hg : w.grownBy w' row) (hne : ∀ x, ao = some x → some x.block ≠ row) : Cells w' ao N f :=
  ⟨h.1, fun x hx i hi => by
    have := h.2 x hx i hi
    have hb := World.block_lt_of_cell? w _ this
    have eb : (x.add i).block = x.block := by unfold Addr.add; split <;> rfl
    rw [World.cell?_of_block (hg.block (x.add i).block hb (by rw [eb]; exact hne x hx))]; exact this⟩
end Go.Proofs.Qxb6605286a
