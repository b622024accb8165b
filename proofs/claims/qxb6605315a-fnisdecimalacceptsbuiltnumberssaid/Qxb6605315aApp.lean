/-
  zzAppendUint: it appends at least one and at most L digits, L such that the number is below 10^L.
-/
import Derived.Test.Qxb6605315aDec
import Derived.WalkSpells
namespace Go.Proofs.Qxb6605315a
open Go.RowKit

theorem Try.info5 : (Try.prog.info? 5).map (fun i => (i.zero, i.size, i.bytes)) = some (some (.int .u8 0), 1, 1) := by kernel_rfl

/-- The buffer of 20 bytes at block k: its last t cells are digits. -/
def Buf (w : World) (k t : Nat) (cs : List Value) : Prop :=
  w.ownsRow k 28 1 (.slice (some ⟨k, 0, none⟩) 20 20) 20 cs ∧ ∀ j, 20 - t ≤ j → j < 20 → ∃ d : Int, cs[j]? = some (.int .u8 d) ∧ 48 ≤ d ∧ d ≤ 57
theorem buf_new (w : World) (cs : Array Value) (h : cs.size = 20) : (w.alloc (.cells cs 28)).ownsRow w.heap.size 28 1 (.slice (some ⟨w.heap.size, 0, none⟩) 20 20) 20 cs.toList :=
  World.ownsRow_lit w cs 20 (Nat.le_refl _) (by unfold maxLen; omega) (by omega)
theorem Buf.cell {w : World} {k t : Nat} {cs : List Value} (h : Buf w k t cs) {j : Nat} (hj : j < 20) : ∃ v, w.cell? ⟨k, j, none⟩ = some v := by
  have := h.1.cellAt j (by omega)
  have hl := h.1.1
  exact ⟨cs[j]'(by omega), by rw [this]; simp [show j < cs.length by omega]⟩
theorem Buf.store {w : World} {k t : Nat} {cs : List Value} (h : Buf w k t cs) (ht : t < 20) {d : Int} (h1 : 48 ≤ d) (h2 : d ≤ 57) :
    Buf (w.setCell ⟨k, 20 - t - 1, none⟩ (.int .u8 d)) k (t + 1) (cs.set (20 - t - 1) (.int .u8 d)) := by
  refine ⟨(h.1.stored _ _).1, fun j hj hj2 => ?_⟩
  have hl := h.1.1
  by_cases e : j = 20 - t - 1
  · subst e
    exact ⟨d, by rw [List.getElem?_set_self (by omega)], h1, h2⟩
  · obtain ⟨d', g1, g2⟩ := h.2 j (by omega) hj2
    exact ⟨d', by rw [List.getElem?_set_ne (by omega)]; exact g1, g2⟩
theorem grown_set {w wr : World} {k : Nat} (h : w.grownBy wr none) (hk : w.heap.size ≤ k) (j : Nat) (u : Value) : w.grownBy (wr.setCell ⟨k, j, none⟩ u) none :=
  ⟨h.os, h.tape, h.output, by have := h.size; simpa using this, fun i hi hne => by
    rw [Below.heap_setCell wr ⟨k, j, none⟩ u i (by show i ≠ k; omega)]; exact h.block i hi hne⟩

theorem grown_alloc {w w' : World} {o : Obj} {row : Option Nat} (h : (w.alloc o).grownBy w' row) : w.grownBy w' row :=
  ⟨h.os, h.tape, h.output, by have := h.size; simp at this; omega, fun k hk hne => by
    rw [h.block k (by simp; omega) hne]; exact Below.heap_alloc w o k hk⟩
theorem grown_trans {w w1 w2 : World} {row : Option Nat} (h : w.grownBy w1 row) (h2 : w1.grownBy w2 row) : w.grownBy w2 row :=
  ⟨h2.os.trans h.os, h2.tape.trans h.tape, h2.output.trans h.output, Nat.le_trans h.size h2.size, fun k hk hne => by
    rw [h2.block k (Nat.lt_of_lt_of_le hk h.size) hne]; exact h.block k hk hne⟩

set_option maxHeartbeats 1000000 in
set_option maxRecDepth 10000 in
theorem app_any (B g n cap L : Nat) (xs : List Value) (a : Nat) (w : World) (hown : w.ownsRow B 5 1 (.slice (some ⟨g, 0, none⟩) n cap) n xs) (hr : n + 20 ≤ cap) (_hcap : cap ≤ 1000)
    (ha : a < 18446744073709551616) (hL : a < 10 ^ L) (h1 : 1 ≤ L) (h20 : L ≤ 20) :
    Calls Try.prog 8 #[.slice (some ⟨g, 0, none⟩) n cap, .int .u64 a] w fun e w' => ∃ ds : List Int, e = .returned (.slice (some ⟨g, 0, none⟩) (n + ds.length) cap) ∧ 1 ≤ ds.length ∧ ds.length ≤ L ∧
      (∀ d ∈ ds, 48 ≤ d ∧ d ≤ 57) ∧ w'.ownsRow B 5 1 (.slice (some ⟨g, 0, none⟩) (n + ds.length) cap) (n + ds.length) (xs ++ ds.map (Value.int .u8)) ∧ w.grownBy w' (some g) := by
  obtain ⟨i0, hi, hz0, hz1, hz2⟩ := info_parts Try.info5
  have hgw : g < w.heap.size := (hown.lt g rfl).2
  have HOWN : Hid (w.ownsRow B 5 1 (.slice (some ⟨g, 0, none⟩) n cap) n xs) := hown
  have HL : Hid (a < 10 ^ L) := hL
  clear hown hL
  go_enter Try.func8, Try.ntmps8
  go_upto_if 8 with fail
  go_cut [6] (fun i wx => ∃ (t : Nat) (cs : List Value), t ≤ 1 ∧ (t = 0 → 0 < a) ∧ (1 ≤ t → a = 0) ∧ i = .int .i64 (20 - (t : Int)) ∧ Buf wx w.heap.size t cs ∧ wx.ownsRow B 5 1 (.slice (some ⟨g, 0, none⟩) n cap) n xs ∧ w.grownBy wx none)
  case first =>
    by_cases hz : a = 0
    · subst hz
      go_wp2
      go_meet
      case rel =>
        refine ⟨1, _, Nat.le_refl _, by omega, by simp, by rfl, ⟨buf_new w _ rfl, fun j h1 h2 => ?_⟩, HOWN.out.alloc _, World.grownBy_alloc _ _ _⟩
        obtain rfl : j = 19 := by omega
        exact ⟨48, rfl, by omega, by omega⟩
    · have hz' : ((a : Int) == 0) = false := by simp; omega
      go_wp2
      go_meet
      case rel =>
        exact ⟨0, _, by omega, by omega, by omega, by rfl, ⟨buf_new w _ rfl, fun j h1 h2 => by omega⟩, HOWN.out.alloc _, World.grownBy_alloc _ _ _⟩
  case rest =>
    obtain ⟨t0, cs0, ht0, ht1, ht2, rfl, hbuf0, hown0, hgr0⟩ := hcut
    go_wp2
    go_loopw [1, 6] (fun v i wr => ∃ (t r : Nat) (cs : List Value), t ≤ L ∧ r ≤ a ∧ v = .int .u64 r ∧ i = .int .i64 (20 - (t : Int)) ∧ r < 10 ^ (L - t) ∧ (t = 0 → 0 < r) ∧ Buf wr w.heap.size t cs ∧ wr.ownsRow B 5 1 (.slice (some ⟨g, 0, none⟩) n cap) n xs ∧ w.grownBy wr none) (fun v _ _ => (intOf v).toNat)
    case atStart =>
      refine ⟨t0, a, cs0, by omega, Nat.le_refl _, rfl, rfl, ?_, ht1, hbuf0, hown0, hgr0⟩
      by_cases e : t0 = 0
      · subst e; exact HL.out
      · have := ht2 (by omega); rw [this]; exact Nat.pow_pos (by omega)
    case round =>
      obtain ⟨t, r, cs, ht, hra, rfl, rfl, hrL, ht1', hbuf, hownr, hgr⟩ := hrel
      have HRL : Hid (r < 10 ^ (L - t)) := hrL
      have HB : Hid (Buf wr w.heap.size t cs) := hbuf
      have HO : Hid (wr.ownsRow B 5 1 (.slice (some ⟨g, 0, none⟩) n cap) n xs) := hownr
      have HG : Hid (w.grownBy wr none) := hgr
      clear hrL hbuf hownr hgr hbuf0 hown0 hgr0
      by_cases hr0 : 0 < r
      · have htL : t < L := by
          by_cases e : t < L
          · exact e
          · have := HRL.out; rw [show L - t = 0 by omega] at this; omega
        obtain ⟨v0, hv0⟩ := HB.out.cell (j := 20 - t - 1) (by omega)
        have hfz := HB.out.1.frozenAt (20 - t - 1)
        have hlt10 : r / 10 < 10 ^ (L - (t + 1)) := by
          have e : L - t = (L - (t + 1)) + 1 := by omega
          have := HRL.out
          rw [e, Nat.pow_succ] at this
          omega
        have HLT : Hid (r / 10 < 10 ^ (L - (t + 1))) := hlt10
        clear hlt10
        go_wp2
        go_roundw
        case rel =>
          exact ⟨t + 1, r / 10, _, by omega, by omega, by go_num, by go_num, HLT.out, by omega, HB.out.store (by omega) (by omega) (by omega), ownsRow_setCell_other HO.out (by simp [Value.ownBlock]; omega) _, grown_set HG.out (Nat.le_refl _) _ _⟩
        case measure => simp [intOf]; omega
      · obtain rfl : r = 0 := by omega
        have ht1 : 1 ≤ t := by
          by_cases e : t = 0
          · have := ht1' e; omega
          · omega
        have HTT : Hid (1 ≤ t) := ht1
        clear ht1'
        go_wp2
        obtain ⟨wo, hwo⟩ : ∃ wo : World, wo = wr := ⟨_, rfl⟩
        subst hwo
        go_loopw [0, 6] (fun b i wr => ∃ (k : Nat) (ds : List Int), 20 ≤ k + t ∧ k ≤ 20 ∧ ds.length + 20 = k + t ∧ (∀ d ∈ ds, 48 ≤ d ∧ d ≤ 57) ∧ i = .int .i64 k ∧ b = .slice (some ⟨g, 0, none⟩) (n + ds.length) cap ∧
            Buf wr w.heap.size t cs ∧ wr.ownsRow B 5 1 (.slice (some ⟨g, 0, none⟩) (n + ds.length) cap) (n + ds.length) (xs ++ ds.map (Value.int .u8)) ∧ w.grownBy wr (some g)) (fun _ i _ => 20 - (intOf i).toNat)
        case atStart =>
          exact ⟨20 - t, [], by omega, by omega, by simp; omega, by simp, by go_num, rfl, HB.out, by simpa using HO.out, ⟨HG.out.os, HG.out.tape, HG.out.output, HG.out.size, fun k hk _ => HG.out.block k hk (by simp)⟩⟩
        case round =>
          clear HB HO HG
          obtain ⟨k, ds, hk1, hk2, hdl, hds, rfl, rfl, hbuf, hownr, hgr⟩ := hrel
          have HB : Hid (Buf wr w.heap.size t cs) := hbuf
          have HO : Hid (wr.ownsRow B 5 1 (.slice (some ⟨g, 0, none⟩) (n + ds.length) cap) (n + ds.length) (xs ++ ds.map (Value.int .u8))) := hownr
          have HG : Hid (w.grownBy wr (some g)) := hgr
          have HDS : Hid (∀ d ∈ ds, 48 ≤ d ∧ d ≤ 57) := hds
          clear hds hbuf hownr hgr
          by_cases hlt : k < 20
          · obtain ⟨d, hd0, hd1, hd2⟩ := HB.out.2 k (by omega) hlt
            have hcell : wr.cell? ⟨w.heap.size, k, none⟩ = some (.int .u8 d) := by rw [HB.out.1.cellAt k (by omega)]; exact hd0
            clear hd0
            have hszr := HG.out.size
            go_wp2_with (at_builtin; refine wpList_append_fits _ rfl _ _ 25 rfl B 5 i0 1 Try.underlying25 hi hz1 g (n + ds.length) cap _ rfl (HO.out.alloc _) ⟨wr.heap.size, 0, none⟩ 1 1 [.int .u8 d] rfl rfl ?c1 ?c2 ?c3 ?_)
            case c1 => exact cell_one_new _ _ _
            case c2 => intro u hu; simp at hu; subst hu; rfl
            case c3 => omega
            · intro w1 hown1 hgrow1
              have HO1 : Hid (w1.ownsRow B 5 1 (.slice (some ⟨g, 0, none⟩) (n + ds.length + 1) cap) (n + ds.length + 1) (xs ++ (ds.map (Value.int .u8) ++ [.int .u8 d]))) := hown1
              have hg1 : wr.grownBy w1 (some g) := grown_alloc hgrow1
              have HB1 : Hid (Buf w1 w.heap.size t cs) := ⟨HB.out.1.kept hg1 (.inr (by simp [Value.ownBlock]; omega)), HB.out.2⟩
              have HG1 : Hid (w.grownBy w1 (some g)) := grown_trans HG.out hg1
              clear hown1 hgrow1 hg1 HB HG HO hcell
              go_wp2
              go_roundw
              case rel =>
                have R : (∀ x ∈ ds ++ [d], 48 ≤ x ∧ x ≤ 57) ∧ w1.ownsRow B 5 1 (.slice (some ⟨g, 0, none⟩) (n + (ds ++ [d]).length) cap) (n + (ds ++ [d]).length) (xs ++ (ds ++ [d]).map (Value.int .u8)) := by
                  refine ⟨fun x hx => ?_, ?_⟩
                  · rcases List.mem_append.1 hx with h | h
                    · exact HDS.out x h
                    · simp at h; subst h; exact ⟨hd1, hd2⟩
                  · simpa [Nat.add_assoc] using HO1.out
                (repeat apply Exists.intro)
                exact ⟨⟨k + 1, ds ++ [d], by omega, by omega, by simp; omega, R.1, by go_num, by simp [Nat.add_assoc], HB1.out, R.2, HG1.out⟩, rfl⟩
              case measure => simp [intOf]; omega
          · obtain rfl : k = 20 := by omega
            go_wp2
            go_ret
            exact ⟨ds, rfl, by omega, by omega, HDS.out, HO.out, HG.out⟩
end Go.Proofs.Qxb6605315a
