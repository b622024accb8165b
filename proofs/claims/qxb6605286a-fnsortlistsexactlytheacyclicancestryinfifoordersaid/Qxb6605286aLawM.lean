/-
  THE MEMORY OF THE LAW: its tables, each in a block of its own; what stands beside them.
-/
import Derived.Test.Qxb6605286aLawP
import Derived.Test.Qxb6605286aZZSort
namespace Go.Proofs.Qxb6605286a
open Go.RowKit

/-- A table of n cells in block g. -/
def OwnT (w : World) (g : Nat) (e : TypeId) (n : Nat) (F : Nat → Value) : Prop := w.ownsRow g e 1 (.slice (some ⟨g, 0, none⟩) n n) n (seg F 0 n)
section
variable {w w' : World} {g : Nat} {e : TypeId} {n : Nat} {F : Nat → Value}
theorem OwnT.set (h : OwnT w g e n F) (v : Nat) (x : Value) : OwnT (w.setCell ⟨g, v, none⟩ x) g e n (fun u => if u = v then x else F u) ∧ w.grownBy (w.setCell ⟨g, v, none⟩ x) (some g) := by
  obtain ⟨a, b⟩ := World.ownsRow.stored h v x
  rw [seg_set] at a
  exact ⟨a, b⟩
theorem OwnT.kept (h : OwnT w g e n F) {row : Option Nat} (hg : w.grownBy w' row) (hne : some g ≠ row) : OwnT w' g e n F := World.ownsRow.kept h hg (.inr (by simpa [Value.ownBlock] using hne))
theorem OwnT.cell (h : OwnT w g e n F) {v : Nat} (hv : v < n) : w.cell? ⟨g, v, none⟩ = some (F v) := by
  rw [World.ownsRow.cellAt h v (by omega), seg_at _ _ _ _ hv, Nat.zero_add]
theorem OwnT.free (h : OwnT w g e n F) (v : Nat) : w.frozen? ⟨g, v, none⟩ = false := World.ownsRow.frozenAt h v
theorem OwnT.lt (h : OwnT w g e n F) : g < w.heap.size := (World.ownsRow.lt h g rfl).2
theorem OwnT.congr (h : OwnT w g e n F) {G : Nat → Value} (hg : ∀ u, u < n → F u = G u) : OwnT w g e n G := by
  unfold OwnT at h ⊢
  rw [← seg_congr (f := F) (g := G) (o := 0) (fun j hj => by rw [Nat.zero_add]; exact hg j hj)]; exact h
theorem ownT_made {w : World} {g : Nat} {e : TypeId} {n : Nat} {z : Value} (h : w.ownsRow g e 1 (.slice (some ⟨g, 0, none⟩) n n) n (madeCells #[z] n).toList) : OwnT w g e n (fun _ => z) := by
  rw [made_seg] at h; exact h
theorem ownT_made2 {w : World} {g : Nat} {e : TypeId} {n : Nat} {z : Value} (hc : z.cells = #[z]) (h : w.ownsRow g e 1 (.slice (some ⟨g, 0, none⟩) n n) n (madeCells z.cells (n * 1)).toList) : OwnT w g e n (fun _ => z) := by
  rw [hc, Nat.mul_one] at h; exact ownT_made h
end

/-- What stands beside the tables: the copied edges, the order. Both lie below block B. -/
structure Env (w wr : World) (ae : Option Addr) (m : Nat) (z : Nat → Int) (ao : Option Addr) (oc : Nat) (L : List Nat) (B : Nat) : Prop where
  ed : Cells wr ae (m * 3) (fun i => .int .i32 (z i))
  or : wr.ownsRow w.heap.size 21 1 (.slice ao L.length oc) L.length (L.map fun (x : Nat) => Value.int .i32 (x : Int))
  eb : ∀ x, ae = some x → 0 < m → x.block < B
  ob : ∀ g, (Value.slice ao L.length oc).ownBlock = some g → g < B
  gr : w.grownBy wr none
  bw : w.heap.size ≤ B
section
variable {w wr wx : World} {ae ao : Option Addr} {m oc B : Nat} {z : Nat → Int} {L : List Nat}
theorem Env.kept (h : Env w wr ae m z ao oc L B) {row : Option Nat} (hg : wr.grownBy wx row) (hr : ∀ g, row = some g → B ≤ g) : Env w wx ae m z ao oc L B := by
  refine ⟨⟨h.ed.1, fun x hx i hi => ?_⟩, h.or.kept hg ?_, h.eb, h.ob, grown_own' h.gr hg fun g hg' => by have := hr g hg'; have := h.bw; omega, h.bw⟩
  · have hc := h.ed.2 x hx i hi
    have hb := World.block_lt_of_cell? wr _ hc
    have e : (x.add i).block = x.block := by unfold Addr.add; split <;> rfl
    have hx' := h.eb x hx (by omega)
    rw [World.cell?_of_block (hg.block (x.add i).block hb (by rw [e]; intro q; have := hr _ q.symm; omega))]
    exact hc
  · cases q : (Value.slice ao L.length oc).ownBlock with
    | none => exact .inl rfl
    | some g => right; intro e; have := hr g e.symm; have := h.ob g q; omega
/-- The cells of edge k. -/
theorem Env.edge (h : Env w wr ae m z ao oc L B) {k : Nat} (hk : k < m) : ∃ b off, ae = some ⟨b, off, none⟩ ∧ wr.cell? ⟨b, off + k * 3, none⟩ = some (.int .i32 (z (k * 3))) ∧ wr.cell? ⟨b, off + k * 3 + 1, none⟩ = some (.int .i32 (z (k * 3 + 1))) := by
  obtain ⟨b, off, e, _, hc⟩ := h.ed.at (by omega)
  exact ⟨b, off, e, hc (k * 3) (by omega), by rw [Nat.add_assoc]; exact hc (k * 3 + 1) (by omega)⟩
/-- The cells of the order. -/
theorem Env.place (h : Env w wr ae m z ao oc L B) {i : Nat} (hi : i < L.length) : ∃ g, ao = some ⟨g, 0, none⟩ ∧ ∀ i (_ : i < L.length), wr.cell? ⟨g, i, none⟩ = some (.int .i32 (L[i] : Int)) := by
  obtain ⟨g, e, _, _, hc⟩ := own_cell h.or (by omega)
  exact ⟨g, e, fun i hi => by rw [hc i (by omega)]; simp [hi]⟩
end

theorem grown_dN (w : World) (q : Nat) : w.grownBy (w.drewN q) none := grown_drewN (grown_refl _ _) q

/-- The tables that loop 7 writes, and what stands beside them. -/
def Tabs (w wr : World) (b2 : Option Addr) (m : Nat) (z : Nat → Int) (ao : Option Addr) (oc : Nat) (L : List Nat) (n gp gb gl : Nat) (f t : Nat → Nat) (q : Nat) : Prop :=
  OwnT wr gl 3 n (fun u => .int .i64 (lastK f t L q u)) ∧ OwnT wr gb 4 n (fun u => .bool (blkK f t L q u)) ∧ OwnT wr gp 3 n (fun u => .int .i64 (posV L u)) ∧ Env w wr b2 m z ao oc L gp
section
variable {w wr : World} {b2 ao : Option Addr} {m oc n gp gb gl q tv : Nat} {z : Nat → Int} {L : List Nat} {f t : Nat → Nat} {FF la : Int}
theorem tabs_block (h : Tabs w wr b2 m z ao oc L n gp gb gl f t q) (h1 : gp < gb) (h2 : gb < gl) (hl : ∀ u, lastK f t L (q + 1) u = lastK f t L q u) (hb : ∀ u, blkK f t L (q + 1) u = if u = tv then true else blkK f t L q u) (N : Nat) :
    Tabs w ((wr.drewN N).setCell ⟨gb, tv, none⟩ (.bool true)) b2 m z ao oc L n gp gb gl f t (q + 1) := by
  obtain ⟨a, b, c, d⟩ := h
  have hd := grown_dN wr N
  obtain ⟨s1, s2⟩ := (b.kept hd (by simp)).set tv (.bool true)
  refine ⟨((a.kept hd (by simp)).kept s2 (by intro e; injection e with e; omega)).congr fun u _ => by rw [hl], s1.congr fun u _ => ?_, (c.kept hd (by simp)).kept s2 (by intro e; injection e with e; omega), (d.kept hd (by simp)).kept s2 (fun g e => by injection e with e; omega)⟩
  rw [hb]; split <;> rfl
theorem tabs_last (h : Tabs w wr b2 m z ao oc L n gp gb gl f t q) (h1 : gp < gb) (h2 : gb < gl) (hb : ∀ u, blkK f t L (q + 1) u = blkK f t L q u) (hl : ∀ u, lastK f t L (q + 1) u = if u = tv ∧ la < FF then FF else lastK f t L q u) (hlf : la < FF) (N : Nat) :
    Tabs w ((wr.drewN N).setCell ⟨gl, tv, none⟩ (.int .i64 FF)) b2 m z ao oc L n gp gb gl f t (q + 1) := by
  obtain ⟨a, b, c, d⟩ := h
  have hd := grown_dN wr N
  obtain ⟨s1, s2⟩ := (a.kept hd (by simp)).set tv (.int .i64 FF)
  refine ⟨s1.congr fun u _ => ?_, ((b.kept hd (by simp)).kept s2 (by intro e; injection e with e; omega)).congr fun u _ => by rw [hb], (c.kept hd (by simp)).kept s2 (by intro e; injection e with e; omega), (d.kept hd (by simp)).kept s2 (fun g e => by injection e with e; omega)⟩
  rw [hl]
  by_cases e : u = tv
  · rw [if_pos e, if_pos ⟨e, hlf⟩]
  · rw [if_neg e, if_neg (fun h => e h.1)]
theorem le_store {gd : Nat} {la : Nat → Int} (h : OwnT wr gd 3 n (fun u => .int .i64 (leK f t L la q u))) (ht : tv = t q) (h0 : 0 ≤ posV L (f q)) (h1 : posV L (f q) = la (t q)) (N : Nat) :
    OwnT ((wr.drewN N).setCell ⟨gd, tv, none⟩ (.int .i64 (q : Int))) gd 3 n (fun u => .int .i64 (leK f t L la (q + 1) u)) ∧ wr.grownBy ((wr.drewN N).setCell ⟨gd, tv, none⟩ (.int .i64 (q : Int))) (some gd) := by
  obtain ⟨s1, s2⟩ := (h.kept (grown_dN wr N) (by simp)).set tv (.int .i64 (q : Int))
  refine ⟨s1.congr fun u _ => ?_, ⟨s2.os, s2.tape, s2.output, s2.size, s2.block⟩⟩
  rw [leK]
  by_cases e : u = tv
  · rw [if_pos e, if_pos ⟨(e.trans ht).symm, h0, by rw [e, ht]; exact h1⟩]
  · rw [if_neg e, if_neg (fun h => e (by rw [ht]; exact h.1.symm))]
theorem le_skip {gd : Nat} {la : Nat → Int} (h : OwnT wr gd 3 n (fun u => .int .i64 (leK f t L la q u))) (hno : ¬ (0 ≤ posV L (f q) ∧ posV L (f q) = la (t q))) (N : Nat) :
    OwnT (wr.drewN N) gd 3 n (fun u => .int .i64 (leK f t L la (q + 1) u)) ∧ wr.grownBy (wr.drewN N) (some gd) := by
  refine ⟨(h.kept (grown_dN wr N) (by simp)).congr fun u _ => ?_, ⟨rfl, rfl, rfl, Nat.le_refl _, fun _ _ _ => rfl⟩⟩
  rw [leK, if_neg]
  rintro ⟨e, h1, h2⟩
  subst e
  exact hno ⟨h1, h2⟩
theorem tabs_none (h : Tabs w wr b2 m z ao oc L n gp gb gl f t q) (hb : ∀ u, blkK f t L (q + 1) u = blkK f t L q u) (hl : ∀ u, lastK f t L (q + 1) u = if u = tv ∧ la < FF then FF else lastK f t L q u) (hlf : ¬ la < FF) (N : Nat) :
    Tabs w (wr.drewN N) b2 m z ao oc L n gp gb gl f t (q + 1) := by
  obtain ⟨a, b, c, d⟩ := h
  have hd := grown_dN wr N
  refine ⟨(a.kept hd (by simp)).congr fun u _ => ?_, (b.kept hd (by simp)).congr fun u _ => by rw [hb], c.kept hd (by simp), d.kept hd (by simp)⟩
  rw [hl, if_neg (fun h => hlf h.2)]
end
end Go.Proofs.Qxb6605286a
