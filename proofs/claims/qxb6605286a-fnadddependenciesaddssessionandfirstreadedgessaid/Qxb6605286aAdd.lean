/-
  (*graph).add.
-/
import Derived.Test.Qxb6605286aGraph
import Derived.Deep.RegionLaw
namespace Go.Proofs.Qxb6605286a
open Go.RowKit

theorem Try.info75a : (Try.prog.info? 75).map (fun i => (i.zero, i.size, i.bytes)) = some (some (.agg #[.int .i32 0, .int .i32 0, .int .i32 0]), 3, 12) := by kernel_rfl
theorem Try.info70 : (Try.prog.info? 70).map (fun i => (i.zero, i.size, i.bytes)) = some (some (.agg #[.int .i64 0, .int .i64 0, .int .i64 0, .int .i32 0]), 4, 32) := by kernel_rfl
theorem onesE (a b c : Int) : ∀ u ∈ [Value.int .i32 a, .int .i32 b, .int .i32 c], u.oneCell' = true := by
  intro u hu; simp at hu; rcases hu with rfl | rfl | rfl <;> rfl
theorem onesR (a b c d : Int) : ∀ u ∈ [Value.int .i64 a, .int .i64 b, .int .i64 c, .int .i32 d], u.oneCell' = true := by
  intro u hu; simp at hu; rcases hu with rfl | rfl | rfl | rfl <;> rfl
theorem cells_new (w : World) (xs : List Value) (t : TypeId) (B : Nat) (hB : w.heap.size = B) : ∀ j u, xs[j]? = some u → (w.alloc (.cells xs.toArray t)).cell? ((⟨B, 0, none⟩ : Addr).add j) = some u := by
  subst hB
  intro j u hu
  rw [Addr.add_lit, Nat.zero_add]
  exact cell_of_row _ _ _ _ t (0, 0) (heap_alloc_new w _) |>.trans (by simpa using hu)

theorem edge_mid {W w3 : World} {B G k : Nat} {v : Value} {xs : List Value} {ev rv : Value} {E : Nat → T3} {ne : Nat} {Q : Nat → T4} {nr : Nat} (h : GSx W B G v k xs ev rv E ne Q nr) (hg : W.grownBy w3 ev.ownBlock) : w3.cell? ⟨G, 7, none⟩ = some ev ∧ w3.frozen? ⟨G, 7, none⟩ = false := by
  have hne : some G ≠ ev.ownBlock := fun e => (h.s1 G e.symm).1 rfl
  exact ⟨by rw [grown_cell hg h.lt hne]; exact h.c7, by rw [World.frozen?_of_block (hg.block G h.lt hne)]; exact h.f7⟩
theorem reason_mid {W w3 : World} {B G k : Nat} {v : Value} {xs : List Value} {ev rv : Value} {E : Nat → T3} {ne : Nat} {Q : Nat → T4} {nr : Nat} (h : GSx W B G v k xs ev rv E ne Q nr) (hg : W.grownBy w3 rv.ownBlock) : w3.cell? ⟨G, 8, none⟩ = some rv ∧ w3.frozen? ⟨G, 8, none⟩ = false := by
  have hne : some G ≠ rv.ownBlock := fun e => h.s2 G e.symm rfl
  exact ⟨by rw [grown_cell hg h.lt hne]; exact h.c8, by rw [World.frozen?_of_block (hg.block G h.lt hne)]; exact h.f8⟩
theorem GSx.formE {W : World} {B G k : Nat} {v : Value} {xs : List Value} {ev rv : Value} {E : Nat → T3} {ne : Nat} {Q : Nat → T4} {nr : Nat} (h : GSx W B G v k xs ev rv E ne Q nr) : ∃ ae ce, ev = .slice ae ne ce := by
  rcases h.oe.2 with ⟨e1, rfl⟩ | ⟨g, cap, cur, e1, _⟩
  · exact ⟨_, _, e1⟩
  · exact ⟨_, _, e1⟩
theorem GSx.formR {W : World} {B G k : Nat} {v : Value} {xs : List Value} {ev rv : Value} {E : Nat → T3} {ne : Nat} {Q : Nat → T4} {nr : Nat} (h : GSx W B G v k xs ev rv E ne Q nr) : ∃ ae ce, rv = .slice ae nr ce := by
  rcases h.orr.2 with ⟨e1, rfl⟩ | ⟨g, cap, cur, e1, _⟩
  · exact ⟨_, _, e1⟩
  · exact ⟨_, _, e1⟩
theorem edge_all {w W w3 : World} {B G k : Nat} {v : Value} {xs : List Value} {ev rv : Value} {E : Nat → T3} {ne : Nat} {Q : Nat → T4} {nr g cap N : Nat} {a b c : Int} (hg : W.grownBy w3 ev.ownBlock) (hW : w.grownBy W none) (hN : W.heap.size = N) (h : GSx w B G v k xs ev rv E ne Q nr)
    (ho : w3.ownsRow B 75 3 (.slice (some ⟨g, 0, none⟩) (ne + 1) cap) (ne + 1) (seg (eF E) 0 (ne * 3) ++ [.int .i32 a, .int .i32 b, .int .i32 c])) (hat : ev.ownBlock = some g ∨ g = N) (hE : E ne = (a, b, c)) :
    (w3.cell? ⟨G, 7, none⟩ = some ev ∧ w3.frozen? ⟨G, 7, none⟩ = false) ∧ GS (w3.setCell ⟨G, 7, none⟩ (.slice (some ⟨g, 0, none⟩) (ne + 1) cap)) B G v k xs E (ne + 1) Q nr ∧ Fr B G w (w3.setCell ⟨G, 7, none⟩ (.slice (some ⟨g, 0, none⟩) (ne + 1) cap)) := by
  subst hN
  have h2 := h.grown hW
  have h3 := edge_push h2 hg ho hat hE
  exact ⟨edge_mid h2 hg, ⟨_, _, h3.1⟩, (h.fr hW).trans h3.2⟩
theorem reason_all {w W w3 : World} {B G k : Nat} {v : Value} {xs : List Value} {ev rv : Value} {E : Nat → T3} {ne : Nat} {Q : Nat → T4} {nr g cap N : Nat} {a b c d : Int} (hg : W.grownBy w3 rv.ownBlock) (hW : w.grownBy W none) (hN : W.heap.size = N) (h : GSx w B G v k xs ev rv E ne Q nr)
    (ho : w3.ownsRow B 70 4 (.slice (some ⟨g, 0, none⟩) (nr + 1) cap) (nr + 1) (seg (rF Q) 0 (nr * 4) ++ [.int .i64 a, .int .i64 b, .int .i64 c, .int .i32 d])) (hat : rv.ownBlock = some g ∨ g = N) (hQ : Q nr = (a, b, c, d)) :
    (w3.cell? ⟨G, 8, none⟩ = some rv ∧ w3.frozen? ⟨G, 8, none⟩ = false) ∧ GSx (w3.setCell ⟨G, 8, none⟩ (.slice (some ⟨g, 0, none⟩) (nr + 1) cap)) B G v k xs ev (.slice (some ⟨g, 0, none⟩) (nr + 1) cap) E ne Q (nr + 1) ∧ Fr B G w (w3.setCell ⟨G, 8, none⟩ (.slice (some ⟨g, 0, none⟩) (nr + 1) cap)) := by
  subst hN
  have h2 := h.grown hW
  have h3 := reason_push h2 hg ho hat hQ
  exact ⟨reason_mid h2 hg, h3.1, (h.fr hW).trans h3.2⟩

set_option maxHeartbeats 2000000 in
set_option maxRecDepth 10000 in
theorem add_sess (B G ne nr k : Nat) (v : Value) (xs : List Value) (E : Nat → T3) (Q : Nat → T4) (a b key val via : Int) (w : World) (hne : ne ≤ 131072) (hE : E ne = (a, b, 0)) (h : GS w B G v k xs E ne Q nr) :
    Calls Try.prog 27 #[.pointer (some ⟨G, 0, none⟩), .int .i32 a, .int .i32 b, .agg #[.int .i64 0, .int .i64 key, .int .i64 val, .int .i32 via]] w fun e w' => e = .returned (.tuple #[]) ∧ GS w' B G v k xs E (ne + 1) Q nr ∧ Fr B G w w' := by
  obtain ⟨i1, hi1, hy0, hy1, hy2⟩ := info_parts Try.info75a
  obtain ⟨ev, rv, hx⟩ := h
  have HX : Hid (GSx w B G v k xs ev rv E ne Q nr) := hx
  have HE : Hid (E ne = (a, b, 0)) := hE
  have hG := hx.lt
  have hB := hx.le
  obtain ⟨ae, ce, he⟩ := hx.formE
  have c7 := hx.c7
  subst he
  clear hx hE
  go_enter Try.func27, Try.ntmps27
  go_wp2_with (at_builtin; refine wpList_append_lies _ rfl _ _ 53 rfl B 75 i1 (.agg #[.int .i32 0, .int .i32 0, .int .i32 0]) 3 12 Try.underlying53 hi1 hy0 hy1 hy2 rfl (by decide) (.slice ae ne ce) ne (seg (eF E) 0 (ne * 3)) rfl ((HX.out.oe.alloc _).alloc _) ⟨w.heap.size + 1, 0, none⟩ 1 1 [.int .i32 a, .int .i32 b, .int .i32 0] rfl rfl (cells_new (w.alloc _) [.int .i32 a, .int .i32 b, .int .i32 0] 75 _ (by simp)) (onesE _ _ _) (by omega) (by unfold maxLen; omega) (by omega) (by simp; omega) _ rfl ?_)
  intro g cap w3 hown hgrow hat hlt
  have R := edge_all hgrow (grown_trans (World.grownBy_alloc _ _ _) (World.grownBy_alloc _ _ _)) (by simp) HX.out hown hat HE.out
  obtain ⟨k7, k8⟩ := R.1
  have HP : Hid _ := R.2
  clear hown hgrow hat hlt c7 R
  go_wp2
  first | go_end0 | (simp only [Exit.inBlock, Exit.then]; refine bodyPost_ret (results_none rfl _ _ _) rfl ?_) | refine bodyPost_ret (results_none rfl _ _ _) rfl ?_
  exact ⟨rfl, HP.out.1, HP.out.2⟩

theorem cells_new_drew (w : World) (xs : List Value) (t : TypeId) (B : Nat) (hB : w.heap.size = B) : ∀ j u, xs[j]? = some u → (w.alloc (.cells xs.toArray t)).drew.cell? ((⟨B, 0, none⟩ : Addr).add j) = some u := cells_new w xs t B hB

set_option maxHeartbeats 4000000 in
set_option maxRecDepth 10000 in
theorem add_read (B G ne nr k : Nat) (v : Value) (xs : List Value) (E : Nat → T3) (Q : Nat → T4) (a b key val : Int) (w : World) (hne : ne ≤ 131072) (hnr : nr ≤ 131072) (hE : E ne = (a, b, (nr : Int))) (hQ : Q nr = (1, key, val, 0)) (h : GS w B G v k xs E ne Q nr) :
    Calls Try.prog 27 #[.pointer (some ⟨G, 0, none⟩), .int .i32 a, .int .i32 b, .agg #[.int .i64 1, .int .i64 key, .int .i64 val, .int .i32 0]] w fun e w' => e = .returned (.tuple #[]) ∧ GS w' B G v k xs E (ne + 1) Q (nr + 1) ∧ Fr B G w w' := by
  obtain ⟨i1, hi1, hy0, hy1, hy2⟩ := info_parts Try.info75a
  obtain ⟨i0, hi, hz0, hz1, hz2⟩ := info_parts Try.info70
  obtain ⟨ev, rv, hx⟩ := h
  have HX : Hid (GSx w B G v k xs ev rv E ne Q nr) := hx
  have HE : Hid (E ne = (a, b, (nr : Int))) := hE
  have HQ : Hid (Q nr = (1, key, val, 0)) := hQ
  have hG := hx.lt
  have hB := hx.le
  obtain ⟨ae, ce, he⟩ := hx.formE
  obtain ⟨ar, cr, hr⟩ := hx.formR
  have c8 := hx.c8
  have f8 := hx.f8
  subst he
  subst hr
  clear hx hE hQ
  go_enter Try.func27, Try.ntmps27
  go_wp2
  go_region_law (refine step_append_lies _ rfl (.tmp 22) (.tmp 24) 59 rfl B 70 i0 (.agg #[.int .i64 0, .int .i64 0, .int .i64 0, .int .i32 0]) 4 32 Try.underlying59 hi hz0 hz1 hz2 rfl (by decide) (.slice ar nr cr) nr (seg (rF Q) 0 (nr * 4)) (by simp [Act.eval]) (((HX.out.orr.alloc _).alloc _).drew) ⟨w.heap.size + 1, 0, none⟩ 1 1 [.int .i64 1, .int .i64 key, .int .i64 val, .int .i32 0] (by simp [Act.eval]) rfl (cells_new_drew (w.alloc _) [.int .i64 1, .int .i64 key, .int .i64 val, .int .i32 0] 70 (w.heap.size + 1) (by simp)) (onesR _ _ _ _) (by omega) (by unfold maxLen; omega) (by omega) (by simp; omega) (w.heap.size + 2) (by simp) ?_; intro g cap w1 hown hgrow hat hlt1; have k8 := (reason_all hgrow (grown_drew (grown_trans (World.grownBy_alloc _ _ _) (World.grownBy_alloc _ _ _))) (by simp) HX.out hown hat HQ.out).1.1; have kf8 := (reason_all hgrow (grown_drew (grown_trans (World.grownBy_alloc _ _ _) (World.grownBy_alloc _ _ _))) (by simp) HX.out hown hat HQ.out).1.2)
  all_goals
    have R := (reason_all hgrow (grown_drew (grown_trans (World.grownBy_alloc _ _ _) (World.grownBy_alloc _ _ _))) (by simp) HX.out hown hat HQ.out).2
    have HP : Hid _ := R.1
    have HF : Hid _ := R.2
    have c7 := HP.out.c7
    have hG4 := HP.out.lt
    have hB4 := HP.out.le
    clear R hown hgrow hat hlt1 k8 kf8 c8 f8
    generalize w1.setCell ⟨G, 8, none⟩ (.slice (some ⟨g, 0, none⟩) (nr + 1) cap) = W4 at *
    go_wp2_with (at_builtin; refine wpList_append_lies _ rfl _ _ 53 rfl B 75 i1 (.agg #[.int .i32 0, .int .i32 0, .int .i32 0]) 3 12 Try.underlying53 hi1 hy0 hy1 hy2 rfl (by decide) (.slice ae ne ce) ne (seg (eF E) 0 (ne * 3)) rfl (HP.out.oe.alloc _) ⟨W4.heap.size, 0, none⟩ 1 1 [.int .i32 a, .int .i32 b, .int .i32 (nr : Int)] rfl rfl (cells_new W4 [.int .i32 a, .int .i32 b, .int .i32 (nr : Int)] 75 _ rfl) (onesE _ _ _) (by omega) (by unfold maxLen; omega) (by omega) (by simp; omega) _ rfl ?_)
    intro g5 cap5 w5 hown5 hgrow5 hat5 hlt5
    have R := edge_all hgrow5 (World.grownBy_alloc _ _ _) (by simp) HP.out hown5 hat5 HE.out
    obtain ⟨k7, k8⟩ := R.1
    have HP5 : Hid _ := R.2
    clear hown5 hgrow5 hat5 hlt5 c7 R
    go_wp2
    first | go_end0 | (simp only [Exit.inBlock, Exit.then]; refine bodyPost_ret (results_none rfl _ _ _) rfl ?_) | refine bodyPost_ret (results_none rfl _ _ _) rfl ?_
    exact ⟨rfl, HP5.out.1, HF.out.trans HP5.out.2⟩
end Go.Proofs.Qxb6605286a
