/-
  THE GRAPH IN MEMORY: its edges and reasons, two rows that grow, in blocks from B on.
-/
import Derived.Test.Qxb6605286aReads
namespace Go.Proofs.Qxb6605286a
open Go.RowKit

theorem cell_set_ne (w : World) (G i j : Nat) (v : Value) (h : i ≠ j) : (w.setCell ⟨G, i, none⟩ v).cell? ⟨G, j, none⟩ = w.cell? ⟨G, j, none⟩ :=
  World.cell?_setCell_other _ _ _ _ (fun e => h (by injection e))

structure GSx (w : World) (B G : Nat) (v : Value) (k : Nat) (xs : List Value) (ev rv : Value) (E : Nat → T3) (ne : Nat) (Q : Nat → T4) (nr : Nat) : Prop where
  c7 : w.cell? ⟨G, 7, none⟩ = some ev
  c8 : w.cell? ⟨G, 8, none⟩ = some rv
  f7 : w.frozen? ⟨G, 7, none⟩ = false
  f8 : w.frozen? ⟨G, 8, none⟩ = false
  oe : w.ownsRow B 75 3 ev ne (seg (eF E) 0 (ne * 3))
  orr : w.ownsRow B 70 4 rv nr (seg (rF Q) 0 (nr * 4))
  s1 : ∀ b, ev.ownBlock = some b → b ≠ G ∧ rv.ownBlock ≠ some b
  s2 : ∀ b, rv.ownBlock = some b → b ≠ G
  bG : B ≤ G
  ov : w.ownsRow B 21 1 v k xs
  s3 : ∀ b, v.ownBlock = some b → b ≠ G ∧ ev.ownBlock ≠ some b ∧ rv.ownBlock ≠ some b
def GS (w : World) (B G : Nat) (v : Value) (k : Nat) (xs : List Value) (E : Nat → T3) (ne : Nat) (Q : Nat → T4) (nr : Nat) : Prop := ∃ ev rv, GSx w B G v k xs ev rv E ne Q nr
/-- What stays: the blocks below B, the graph's other fields. -/
structure Fr (B G : Nat) (w w' : World) : Prop where
  bel : Below B w w'
  oth : ∀ j, j ≠ 7 → j ≠ 8 → w'.cell? ⟨G, j, none⟩ = w.cell? ⟨G, j, none⟩
theorem Fr.refl (B G : Nat) (w : World) : Fr B G w w := ⟨Below.refl _ _, fun _ _ _ => rfl⟩
theorem Fr.trans {B G : Nat} {a b c : World} (h : Fr B G a b) (k : Fr B G b c) : Fr B G a c := ⟨h.bel.trans k.bel, fun j h1 h2 => (k.oth j h1 h2).trans (h.oth j h1 h2)⟩
section
variable {w w' : World} {B G k : Nat} {v : Value} {xs : List Value} {ev rv : Value} {E : Nat → T3} {ne : Nat} {Q : Nat → T4} {nr : Nat}
theorem GSx.lt (h : GSx w B G v k xs ev rv E ne Q nr) : G < w.heap.size := World.block_lt_of_cell? w _ h.c7
theorem GSx.le (h : GSx w B G v k xs ev rv E ne Q nr) : B ≤ w.heap.size := by have := h.lt; have := h.bG; omega
theorem GSx.grown (h : GSx w B G v k xs ev rv E ne Q nr) (hg : w.grownBy w' none) : GSx w' B G v k xs ev rv E ne Q nr where
  c7 := by rw [grown_cell hg h.lt (by simp)]; exact h.c7
  c8 := by rw [grown_cell hg h.lt (by simp)]; exact h.c8
  f7 := by rw [World.frozen?_of_block (hg.block G h.lt (by simp))]; exact h.f7
  f8 := by rw [World.frozen?_of_block (hg.block G h.lt (by simp))]; exact h.f8
  oe := h.oe.kept hg (by cases e : ev.ownBlock with
    | none => exact .inl rfl
    | some b => exact .inr (by simp))
  orr := h.orr.kept hg (by cases e : rv.ownBlock with
    | none => exact .inl rfl
    | some b => exact .inr (by simp))
  s1 := h.s1
  s2 := h.s2
  bG := h.bG
  ov := h.ov.kept hg (by cases e : v.ownBlock with
    | none => exact .inl rfl
    | some b => exact .inr (by simp))
  s3 := h.s3
theorem GSx.fr (h : GSx w B G v k xs ev rv E ne Q nr) (hg : w.grownBy w' none) : Fr B G w w' := ⟨(Below.refl _ _).grown hg h.le (fun k hk => nomatch hk), fun j _ _ => grown_cell hg h.lt (by simp) j⟩

theorem edge_push {W w3 : World} {g cap : Nat} {a b c : Int} (h : GSx W B G v k xs ev rv E ne Q nr) (hg : W.grownBy w3 ev.ownBlock)
    (ho : w3.ownsRow B 75 3 (.slice (some ⟨g, 0, none⟩) (ne + 1) cap) (ne + 1) (seg (eF E) 0 (ne * 3) ++ [.int .i32 a, .int .i32 b, .int .i32 c])) (hat : ev.ownBlock = some g ∨ g = W.heap.size) (hE : E ne = (a, b, c)) :
    GSx (w3.setCell ⟨G, 7, none⟩ (.slice (some ⟨g, 0, none⟩) (ne + 1) cap)) B G v k xs (.slice (some ⟨g, 0, none⟩) (ne + 1) cap) rv E (ne + 1) Q nr ∧ Fr B G W (w3.setCell ⟨G, 7, none⟩ (.slice (some ⟨g, 0, none⟩) (ne + 1) cap)) := by
  have hne : some G ≠ ev.ownBlock := fun e => (h.s1 G e.symm).1 rfl
  have hgG : g ≠ G := by
    rcases hat with q | q
    · exact (h.s1 g q).1
    · have := h.lt; omega
  have hgr : rv.ownBlock ≠ some g := by
    rcases hat with q | q
    · exact (h.s1 g q).2
    · intro e; have := (h.orr.lt g e).2; omega
  have hrv : rv.ownBlock = none ∨ rv.ownBlock ≠ ev.ownBlock := by
    cases e : rv.ownBlock with
    | none => exact .inl rfl
    | some b => exact .inr (fun e2 => (h.s1 b e2.symm).2 e)
  have k7 : w3.cell? ⟨G, 7, none⟩ = some ev := by rw [grown_cell hg h.lt hne]; exact h.c7
  have k8 : w3.cell? ⟨G, 8, none⟩ = some rv := by rw [grown_cell hg h.lt hne]; exact h.c8
  have hvv : v.ownBlock = none ∨ v.ownBlock ≠ ev.ownBlock := by
    cases e : v.ownBlock with
    | none => exact .inl rfl
    | some b => exact .inr (fun e2 => (h.s3 b e).2.1 e2.symm)
  refine ⟨⟨World.cell?_setCell_same _ _ _ k7, ?_, ?_, ?_, ?_, ?_, ?_, h.s2, h.bG, ownsRow_setCell_other (h.ov.kept hg hvv) (fun e => (h.s3 _ e).1 rfl) _, fun b hb => ⟨(h.s3 b hb).1, fun e => ?_, (h.s3 b hb).2.2⟩⟩, ⟨?_, ?_⟩⟩
  · rw [cell_set_ne _ _ _ _ _ (by decide)]; exact k8
  · rw [World.frozen?_setCell, World.frozen?_of_block (hg.block G h.lt hne)]; exact h.f7
  · rw [World.frozen?_setCell, World.frozen?_of_block (hg.block G h.lt hne)]; exact h.f8
  · rw [← eF_push E ne a b c hE]
    exact ownsRow_setCell_other ho (by simpa [Value.ownBlock] using hgG) _
  · exact ownsRow_setCell_other (h.orr.kept hg hrv) (fun e => h.s2 _ e rfl) _
  · intro b hb
    have eb : b = g := (Option.some.inj (show some g = some b from hb)).symm
    subst eb
    exact ⟨hgG, hgr⟩
  · have eb : b = g := (Option.some.inj (show some g = some b from e)).symm
    subst eb
    rcases hat with q | q
    · exact (h.s3 b hb).2.1 q
    · have := (h.ov.lt b hb).2; omega
  · exact ((Below.refl _ _).grown hg h.le (fun k hk => (h.oe.lt k hk).1)).setCell h.bG _
  · intro j h7 h8
    rw [cell_set_ne _ _ _ _ _ (by omega), grown_cell hg h.lt hne]

theorem reason_push {W w3 : World} {g cap : Nat} {a b c d : Int} (h : GSx W B G v k xs ev rv E ne Q nr) (hg : W.grownBy w3 rv.ownBlock)
    (ho : w3.ownsRow B 70 4 (.slice (some ⟨g, 0, none⟩) (nr + 1) cap) (nr + 1) (seg (rF Q) 0 (nr * 4) ++ [.int .i64 a, .int .i64 b, .int .i64 c, .int .i32 d])) (hat : rv.ownBlock = some g ∨ g = W.heap.size) (hQ : Q nr = (a, b, c, d)) :
    GSx (w3.setCell ⟨G, 8, none⟩ (.slice (some ⟨g, 0, none⟩) (nr + 1) cap)) B G v k xs ev (.slice (some ⟨g, 0, none⟩) (nr + 1) cap) E ne Q (nr + 1) ∧ Fr B G W (w3.setCell ⟨G, 8, none⟩ (.slice (some ⟨g, 0, none⟩) (nr + 1) cap)) := by
  have hne : some G ≠ rv.ownBlock := fun e => h.s2 G e.symm rfl
  have hgG : g ≠ G := by
    rcases hat with q | q
    · exact h.s2 g q
    · have := h.lt; omega
  have hge : ev.ownBlock ≠ some g := by
    rcases hat with q | q
    · intro e; exact (h.s1 g e).2 q
    · intro e; have := (h.oe.lt g e).2; omega
  have hev : ev.ownBlock = none ∨ ev.ownBlock ≠ rv.ownBlock := by
    cases e : ev.ownBlock with
    | none => exact .inl rfl
    | some b => exact .inr (fun e2 => (h.s1 b e).2 e2.symm)
  have k7 : w3.cell? ⟨G, 7, none⟩ = some ev := by rw [grown_cell hg h.lt hne]; exact h.c7
  have k8 : w3.cell? ⟨G, 8, none⟩ = some rv := by rw [grown_cell hg h.lt hne]; exact h.c8
  have hvv : v.ownBlock = none ∨ v.ownBlock ≠ rv.ownBlock := by
    cases e : v.ownBlock with
    | none => exact .inl rfl
    | some b => exact .inr (fun e2 => (h.s3 b e).2.2 e2.symm)
  refine ⟨⟨?_, World.cell?_setCell_same _ _ _ k8, ?_, ?_, ?_, ?_, ?_, ?_, h.bG, ownsRow_setCell_other (h.ov.kept hg hvv) (fun e => (h.s3 _ e).1 rfl) _, fun b hb => ⟨(h.s3 b hb).1, (h.s3 b hb).2.1, fun e => ?_⟩⟩, ⟨?_, ?_⟩⟩
  · rw [cell_set_ne _ _ _ _ _ (by decide)]; exact k7
  · rw [World.frozen?_setCell, World.frozen?_of_block (hg.block G h.lt hne)]; exact h.f7
  · rw [World.frozen?_setCell, World.frozen?_of_block (hg.block G h.lt hne)]; exact h.f8
  · exact ownsRow_setCell_other (h.oe.kept hg hev) (fun e => (h.s1 _ e).1 rfl) _
  · rw [← rF_push Q nr a b c d hQ]
    exact ownsRow_setCell_other ho (by simpa [Value.ownBlock] using hgG) _
  · intro b hb
    refine ⟨(h.s1 b hb).1, fun e => ?_⟩
    have eb : b = g := (Option.some.inj (show some g = some b from e)).symm
    subst eb
    exact hge hb
  · intro b hb
    have eb : b = g := (Option.some.inj (show some g = some b from hb)).symm
    subst eb
    exact hgG
  · have eb : b = g := (Option.some.inj (show some g = some b from e)).symm
    subst eb
    rcases hat with q | q
    · exact (h.s3 b hb).2.2 q
    · have := (h.ov.lt b hb).2; omega
  · exact ((Below.refl _ _).grown hg h.le (fun k hk => (h.orr.lt k hk).1)).setCell h.bG _
  · intro j h7 h8
    rw [cell_set_ne _ _ _ _ _ (by omega), grown_cell hg h.lt hne]

/-- The third row grows. -/
theorem from_push {W w3 : World} {g cap : Nat} {ys : List Value} (h : GSx W B G v k xs ev rv E ne Q nr) (hg : W.grownBy w3 v.ownBlock)
    (ho : w3.ownsRow B 21 1 (.slice (some ⟨g, 0, none⟩) (k + 1) cap) (k + 1) ys) (hat : v.ownBlock = some g ∨ g = W.heap.size) :
    GSx w3 B G (.slice (some ⟨g, 0, none⟩) (k + 1) cap) (k + 1) ys ev rv E ne Q nr ∧ Fr B G W w3 := by
  have hne : some G ≠ v.ownBlock := fun e => (h.s3 G e.symm).1 rfl
  have hev : ev.ownBlock = none ∨ ev.ownBlock ≠ v.ownBlock := by
    cases e : ev.ownBlock with
    | none => exact .inl rfl
    | some b => exact .inr (fun e2 => (h.s3 b e2.symm).2.1 e)
  have hrv : rv.ownBlock = none ∨ rv.ownBlock ≠ v.ownBlock := by
    cases e : rv.ownBlock with
    | none => exact .inl rfl
    | some b => exact .inr (fun e2 => (h.s3 b e2.symm).2.2 e)
  refine ⟨⟨?_, ?_, ?_, ?_, h.oe.kept hg hev, h.orr.kept hg hrv, h.s1, h.s2, h.bG, ho, fun b hb => ?_⟩, ⟨?_, ?_⟩⟩
  · rw [grown_cell hg h.lt hne]; exact h.c7
  · rw [grown_cell hg h.lt hne]; exact h.c8
  · rw [World.frozen?_of_block (hg.block G h.lt hne)]; exact h.f7
  · rw [World.frozen?_of_block (hg.block G h.lt hne)]; exact h.f8
  · have eb : b = g := (Option.some.inj (show some g = some b from hb)).symm
    subst eb
    rcases hat with q | q
    · exact h.s3 b q
    · refine ⟨by have := h.lt; omega, fun e => ?_, fun e => ?_⟩
      · have := (h.oe.lt b e).2; omega
      · have := (h.orr.lt b e).2; omega
  · exact (Below.refl _ _).grown hg h.le (fun k hk => (h.ov.lt k hk).1)
  · intro j _ _
    exact grown_cell hg h.lt hne j
/-- The third row anew: nil. -/
theorem GSx.fresh (h : GSx w B G v k xs ev rv E ne Q nr) : GSx w B G (.slice none 0 0) 0 [] ev rv E ne Q nr :=
  ⟨h.c7, h.c8, h.f7, h.f8, h.oe, h.orr, h.s1, h.s2, h.bG, World.ownsRow_nil _ _ _ _, fun b hb => by simp [Value.ownBlock] at hb⟩
theorem GS.fresh (h : GS w B G v k xs E ne Q nr) : GS w B G (.slice none 0 0) 0 [] E ne Q nr := let ⟨ev, rv, hx⟩ := h; ⟨ev, rv, hx.fresh⟩
theorem GS.grown (h : GS w B G v k xs E ne Q nr) (hg : w.grownBy w' none) : GS w' B G v k xs E ne Q nr := let ⟨ev, rv, hx⟩ := h; ⟨ev, rv, hx.grown hg⟩
theorem GS.fr (h : GS w B G v k xs E ne Q nr) (hg : w.grownBy w' none) : Fr B G w w' := let ⟨_, _, hx⟩ := h; hx.fr hg
end
end Go.Proofs.Qxb6605286a
