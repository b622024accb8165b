/-
  What adjacency leaves, and what a round of it does: lemmas outside the walk.
-/
import Derived.Test.Qxb6605286aIn
import Derived.Deep.RegionLaw
namespace Go.Proofs.Qxb6605286a
open Go.RowKit

theorem Try.info75 : (Try.prog.info? 75).map (fun i => (i.zero, i.size, i.bytes)) = some (some (.agg #[.int .i32 0, .int .i32 0, .int .i32 0]), 3, 12) := by kernel_rfl
theorem Try.info53 : (Try.prog.info? 53).map (fun i => (i.zero, i.size, i.bytes)) = some (some (.slice none 0 0), 1, 24) := by kernel_rfl

/-- The edges 0, .., k - 1 from u. -/
def outs (fr : Nat → Nat) (k u : Nat) : List Nat := (List.range k).filter fun j => decide (fr j = u)
/-- Their cells. -/
def flat (z : Nat → Int) (l : List Nat) : List Value := l.flatMap fun j => [.int .i32 (z (j * 3)), .int .i32 (z (j * 3 + 1)), .int .i32 (z (j * 3 + 2))]
theorem flat_snoc (z : Nat → Int) (l : List Nat) (j : Nat) : flat z (l ++ [j]) = flat z l ++ [.int .i32 (z (j * 3)), .int .i32 (z (j * 3 + 1)), .int .i32 (z (j * 3 + 2))] := by simp [flat]
theorem outs_yes {fr : Nat → Nat} {k u : Nat} (h : fr k = u) : outs fr (k + 1) u = outs fr k u ++ [k] := by simp [outs, List.range_succ, h]
theorem outs_no {fr : Nat → Nat} {k u : Nat} (h : fr k ≠ u) : outs fr (k + 1) u = outs fr k u := by simp [outs, List.range_succ, h]
theorem outs_le (fr : Nat → Nat) (k u : Nat) : (outs fr k u).length ≤ k := by
  have := List.length_filter_le (fun j => decide (fr j = u)) (List.range k)
  simpa [outs] using this

/-- out: its n rows, each in memory of its own. -/
def Adj (w : World) (g n : Nat) (rows : Nat → Value) (z : Nat → Int) (L : Nat → List Nat) : Prop :=
  w.ownsRow g 53 1 (.slice (some ⟨g, 0, none⟩) n n) n (seg rows 0 n) ∧ (∀ u, u < n → w.ownsRow (g + 1) 75 3 (rows u) (L u).length (flat z (L u))) ∧
  ∀ u v, u < n → v < n → u ≠ v → (rows u).ownBlock = none ∨ (rows u).ownBlock ≠ (rows v).ownBlock

theorem news3 (w : World) (a b c : Value) (t : TypeId) (B : Nat) (hB : w.heap.size = B) : ∀ j u, [a, b, c][j]? = some u → (w.alloc (.cells #[a, b, c] t)).drew.cell? ((⟨B, 0, none⟩ : Addr).add j) = some u := by
  subst hB
  intro j u hj
  rw [Addr.add_lit, Nat.zero_add]
  have : (w.alloc (.cells #[a, b, c] t)).drew.cell? ⟨w.heap.size, j, none⟩ = #[a, b, c][j]? := cell_of_row _ _ _ _ t (0, 0) (heap_alloc_new w _)
  rw [this]; simpa using hj
theorem far_old {wr w1 : World} {X Y : Obj} {row : Option Nat} (hg : ((wr.alloc X).alloc Y).drew.grownBy w1 row) {b j : Nat} {v : Value} (h : wr.cell? ⟨b, j, none⟩ = some v) (hne : some b ≠ row) : w1.cell? ⟨b, j, none⟩ = some v := by
  have hb : b < wr.heap.size := World.block_lt_of_cell? wr _ h
  rw [World.cell?_of_block (hg.block b (by show b < ((wr.alloc X).alloc Y).heap.size; simp; omega) hne)]
  show ((wr.alloc X).alloc Y).cell? _ = _
  rw [World.cell?_alloc_lt _ _ _ (by simp; omega), World.cell?_alloc_lt _ _ _ hb]; exact h
theorem far_frozen {wr w1 : World} {X Y : Obj} {row : Option Nat} (hg : ((wr.alloc X).alloc Y).drew.grownBy w1 row) {b j : Nat} (h : wr.frozen? ⟨b, j, none⟩ = false) (hb : b < wr.heap.size) (hne : some b ≠ row) : w1.frozen? ⟨b, j, none⟩ = false := by
  rw [World.frozen?_of_block (hg.block b (by show b < ((wr.alloc X).alloc Y).heap.size; simp; omega) hne)]
  show ((wr.alloc X).alloc Y).frozen? _ = _
  rw [World.frozen?_alloc_past _ _ _ (by simp; omega), World.frozen?_alloc_past _ _ _ hb]; exact h
theorem far_new {wr w1 : World} {a b c : Value} {t : TypeId} {Y : Obj} {row : Option Nat} (hg : ((wr.alloc (.cells #[a, b, c] t)).alloc Y).drew.grownBy w1 row) (hne : some wr.heap.size ≠ row) : w1.cell? ⟨wr.heap.size, 0, none⟩ = some a := by
  rw [World.cell?_of_block (hg.block wr.heap.size (by show wr.heap.size < ((wr.alloc _).alloc Y).heap.size; simp; omega) hne)]
  show ((wr.alloc _).alloc Y).cell? _ = _
  rw [World.cell?_alloc_lt _ _ _ (by simp)]
  exact cell_of_row _ _ _ _ t (0, 0) (heap_alloc_new wr _)
theorem ne_row1 {row : Option Nat} {g N : Nat} (h : ∀ b, row = some b → g + 1 ≤ b ∧ b < N) : some g ≠ row := fun e => by have := h g e.symm; omega
theorem ne_row2 {row : Option Nat} {g N : Nat} (h : ∀ b, row = some b → g + 1 ≤ b ∧ b < N) : some N ≠ row := fun e => by have := h N e.symm; omega
theorem ones3 (a b c : Int) : ∀ u ∈ [Value.int .i32 a, .int .i32 b, .int .i32 c], u.oneCell' = true := by
  intro u hu; simp at hu; rcases hu with rfl | rfl | rfl <;> rfl
theorem own_past {wr w1 : World} {X Y : Obj} {row : Option Nat} (hg : ((wr.alloc X).alloc Y).drew.grownBy w1 row) {base : Nat} {e : TypeId} {size : Nat} {v : Value} {n : Nat} {xs : List Value} (h : wr.ownsRow base e size v n xs)
    (hne : v.ownBlock = none ∨ v.ownBlock ≠ row) : w1.ownsRow base e size v n xs := (((h.alloc X).alloc Y).drew).kept hg hne
theorem adj_step {w wr w1 : World} {n k u l g cap : Nat} {rows : Nat → Value} {z : Nat → Int} {xs : List Value} {X Y : Obj} (hA : Adj wr w.heap.size n rows z (outs (fun j => (z (j * 3)).toNat) k)) (hgr : w.grownBy wr none) (hun : u < n) (hu : z (k * 3) = u)
    (hl : l = (outs (fun j => (z (j * 3)).toNat) k u).length) (hxs : xs = flat z (outs (fun j => (z (j * 3)).toNat) k u))
    (hown : w1.ownsRow (w.heap.size + 1) 75 3 (.slice (some ⟨g, 0, none⟩) (l + 1) cap) (l + 1) (xs ++ [.int .i32 (u : Int), .int .i32 (z (k * 3 + 1)), .int .i32 (z (k * 3 + 2))]))
    (hgrow : ((wr.alloc X).alloc Y).drew.grownBy w1 (rows u).ownBlock) (hat : (rows u).ownBlock = some g ∨ g = wr.heap.size + 2) :
    Adj (w1.setCell ⟨w.heap.size, u, none⟩ (.slice (some ⟨g, 0, none⟩) (l + 1) cap)) w.heap.size n (fun v => if v = u then .slice (some ⟨g, 0, none⟩) (l + 1) cap else rows v) z (outs (fun j => (z (j * 3)).toNat) (k + 1)) ∧
    w.grownBy (w1.setCell ⟨w.heap.size, u, none⟩ (.slice (some ⟨g, 0, none⟩) (l + 1) cap)) none := by
  obtain ⟨a1, a2, a3⟩ := hA
  have hlt : ∀ v, v < n → ∀ b, (rows v).ownBlock = some b → w.heap.size + 1 ≤ b ∧ b < wr.heap.size := fun v hv b hb => (a2 v hv).lt b hb
  have hneg : some w.heap.size ≠ (rows u).ownBlock := ne_row1 (hlt u hun)
  have o1 := own_past hgrow a1 (.inr (by simpa [Value.ownBlock] using hneg))
  obtain ⟨s1, s2⟩ := o1.stored u (.slice (some ⟨g, 0, none⟩) (l + 1) cap)
  rw [seg_set] at s1
  refine ⟨⟨s1, fun v hv => ?_, fun v v' hv hv' hne => ?_⟩, ?_⟩
  · dsimp only
    by_cases e : v = u
    · subst e
      rw [if_pos rfl, outs_yes (by show (z (k * 3)).toNat = v; rw [hu]; omega), flat_snoc]
      refine ownsRow_setCell_below (a := ⟨w.heap.size, v, none⟩) ?_ (by show w.heap.size < w.heap.size + 1; omega) _
      rw [List.length_append, ← hl, ← hxs, hu]
      exact hown
    · rw [if_neg e, outs_no (by show (z (k * 3)).toNat ≠ v; rw [hu]; omega)]
      exact ownsRow_setCell_below (a := ⟨w.heap.size, u, none⟩) (own_past hgrow (a2 v hv) (a3 v u hv hun e)) (by show w.heap.size < w.heap.size + 1; omega) _
  · dsimp only
    by_cases e : v = u
    · subst e
      rw [if_pos rfl, if_neg (fun h => hne h.symm)]
      right
      intro hb
      have hb' : (rows v').ownBlock = some g := by rw [← hb]; rfl
      rcases hat with h | h
      · rcases a3 v' v hv' hv (fun h => hne h.symm) with q | q
        · rw [q] at hb'; cases hb'
        · exact q (hb'.trans h.symm)
      · have := hlt v' hv' g hb'; omega
    · rw [if_neg e]
      by_cases e' : v' = u
      · subst e'
        rw [if_pos rfl]
        rcases hat with h | h
        · rcases a3 v v' hv hv' e with q | q
          · exact .inl q
          · right; rw [h] at q; exact q
        · right
          intro hb
          have hb' : (rows v).ownBlock = some g := hb
          have := hlt v hv g hb'; omega
      · rw [if_neg e']; exact a3 v v' hv hv' hne
  · have g1 : wr.grownBy w1 (rows u).ownBlock := grown_alloc (grown_alloc ⟨hgrow.os, hgrow.tape, hgrow.output, hgrow.size, hgrow.block⟩)
    have g2 := grown_own' hgr g1 (fun b hb => by have := hlt u hun b hb; omega)
    exact grown_own g2 s2 (Nat.le_refl _)
theorem adj_zero (n : Nat) : (madeCells #[Value.slice none 0 0] n).toList = seg (fun _ => .slice none 0 0) 0 n := by
  rw [toList_madeCells_one]
  apply List.ext_getElem?
  intro j
  by_cases hj : j < n
  · rw [seg_at _ _ _ _ hj]; simp [hj]
  · rw [seg_out _ _ _ _ (by omega)]; simp; omega
theorem eql_nilFunc (w : World) : (binOp .eql 83 .nilFunc .nilFunc).run Try.prog w = .ok (.bool true) w := by kernel_rfl

end Go.Proofs.Qxb6605286a
