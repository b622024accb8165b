/-
  THE WALK OF FnHex4ReadsFourDigitsItWrote.
-/
import Derived.Test.Qxb6605287aHex
import Derived.Test.Qxb6605287aCopy
namespace Go.Proofs.Qxb6605287a
open Go.RowKit

/-- An alphabet of sixteen hexadecimal digits. -/
def Alpha (al : ByteArray) : Prop := ∃ h : al.size = 16, ∀ (i : Nat) (hi : i < 16), hexd (((al[i]'(by omega)).toNat : Int)) = i
theorem alpha_lower : Alpha ⟨#[48, 49, 50, 51, 52, 53, 54, 55, 56, 57, 97, 98, 99, 100, 101, 102]⟩ := by
  refine ⟨rfl, fun i hi => ?_⟩
  rcases (show i = 0 ∨ i = 1 ∨ i = 2 ∨ i = 3 ∨ i = 4 ∨ i = 5 ∨ i = 6 ∨ i = 7 ∨ i = 8 ∨ i = 9 ∨ i = 10 ∨ i = 11 ∨ i = 12 ∨ i = 13 ∨ i = 14 ∨ i = 15 by omega) with rfl | rfl | rfl | rfl | rfl | rfl | rfl | rfl | rfl | rfl | rfl | rfl | rfl | rfl | rfl | rfl <;> rfl
theorem alpha_upper : Alpha ⟨#[48, 49, 50, 51, 52, 53, 54, 55, 56, 57, 65, 66, 67, 68, 69, 70]⟩ := by
  refine ⟨rfl, fun i hi => ?_⟩
  rcases (show i = 0 ∨ i = 1 ∨ i = 2 ∨ i = 3 ∨ i = 4 ∨ i = 5 ∨ i = 6 ∨ i = 7 ∨ i = 8 ∨ i = 9 ∨ i = 10 ∨ i = 11 ∨ i = 12 ∨ i = 13 ∨ i = 14 ∨ i = 15 by omega) with rfl | rfl | rfl | rfl | rfl | rfl | rfl | rfl | rfl | rfl | rfl | rfl | rfl | rfl | rfl | rfl <;> rfl
theorem one_cell (c : Int) : ∀ u ∈ [Value.int .u8 c], u.oneCell' = true := by intro u hu; simp at hu; subst hu; rfl

theorem zzBytes11_any (n0 : Int) (a1 : Bool) (a : Option Addr) (n c : Nat) (w : World) (h : n ≤ 1048576) :
    Calls Try.prog 11 #[.int .u16 n0, .bool a1, .slice a n c] w fun e w' => e = .returned (.bool true) ∧ w = w' := by
  go_enter Try.func11, Try.ntmps11
  go_wp2
  go_ret
  exact ⟨rfl, rfl⟩
theorem zzBytes11_no (n0 : Int) (a1 : Bool) (a : Option Addr) (n c : Nat) (w : World) (h : 1048576 < n) :
    Calls Try.prog 11 #[.int .u16 n0, .bool a1, .slice a n c] w fun e w' => e = .returned (.bool false) ∧ w = w' := by
  go_enter Try.func11, Try.ntmps11
  go_wp2
  go_ret
  exact ⟨rfl, rfl⟩

theorem grown_alloc {w w' : World} {o : Obj} {row : Option Nat} (h : (w.alloc o).grownBy w' row) : w.grownBy w' row :=
  ⟨h.os, h.tape, h.output, by have := h.size; simp at this; omega, fun k hk hne => by
    rw [h.block k (by simp; omega) hne]; exact Below.heap_alloc w o k hk⟩
theorem grown_own {w wx w1 : World} (h : w.grownBy wx none) (hg : wx.grownBy w1 (some w.heap.size)) : w.grownBy w1 none :=
  ⟨hg.os.trans h.os, hg.tape.trans h.tape, hg.output.trans h.output, Nat.le_trans h.size hg.size, fun k hk _ => by
    rw [hg.block k (Nat.lt_of_lt_of_le hk h.size) (by intro e; injection e; omega)]; exact h.block k hk (by simp)⟩
theorem grown_trans {w w1 w2 : World} (h : w.grownBy w1 none) (h2 : w1.grownBy w2 none) : w.grownBy w2 none :=
  ⟨h2.os.trans h.os, h2.tape.trans h.tape, h2.output.trans h.output, Nat.le_trans h.size h2.size, fun k hk hne => by
    rw [h2.block k (Nat.lt_of_lt_of_le hk h.size) hne]; exact h.block k hk hne⟩
theorem byte_bd (u : UInt8) : 0 ≤ ((u.toNat : Int)) ∧ ((u.toNat : Int)) ≤ 255 := by have := u.toNat_lt; omega
/-- The buffer: T lies in block 'w.heap.size', with room for m. -/
def Has (w wx : World) (m : Nat) (T : List Int) : Prop :=
  wx.ownsRow w.heap.size 5 1 (.slice (some ⟨w.heap.size, 0, none⟩) T.length m) T.length (T.map (Value.int .u8)) ∧ w.grownBy wx none
theorem has_push {w wx w1 : World} {T : List Int} {c : Int} {o : Obj} {m : Nat} (h : Has w wx m T) (ho : w1.ownsRow w.heap.size 5 1 (.slice (some ⟨w.heap.size, 0, none⟩) (T.length + 1) m) (T.length + 1) (T.map (Value.int .u8) ++ [.int .u8 c]))
    (hg : (wx.alloc o).grownBy w1 (some w.heap.size)) : Has w w1 m (T ++ [c]) :=
  ⟨by simpa using ho, grown_own h.2 (grown_alloc hg)⟩
theorem hacc4 {z : Nat → Int} {n0 : Nat} (_h0 : n0 < 65536) (e0 : hexd (z 0) = (n0 / 4096 : Nat)) (e1 : hexd (z 1) = (n0 / 256 % 16 : Nat)) (e2 : hexd (z 2) = (n0 / 16 % 16 : Nat)) (e3 : hexd (z 3) = (n0 % 16 : Nat)) : hacc z 4 = n0 := by
  simp only [hacc]
  rw [e0, e1, e2, e3]
  omega

set_option maxHeartbeats 2000000 in
set_option maxRecDepth 10000 in
theorem reads_any (n0 : Nat) (a1 : Bool) (a : Option Addr) (n c : Nat) (zs : List Int) (w : World) (h0 : n0 < 65536) (hm : n ≤ maxLen) (hl : zs.length = n) (hnil : a = none → n = 0 ∧ c = 0) (hcell : ∀ x, a = some x → ∀ i, i < n → w.cell? (x.add i) = some (.int .u8 (zs.getD i 0))) :
    Calls Try.prog 4 #[.int .u16 n0, .bool a1, .slice a n c] w fun e w' => e = .returned (.bool true) ∧ Below w.heap.size w w' := by
  unfold maxLen at hm
  obtain ⟨i0, hi, hz0, hz1, hz2⟩ := info_parts Try.info5
  by_cases hn : 1048576 < n
  · clear hcell hnil
    go_enter Try.func4, Try.ntmps4
    go_wp2_with (go_at_call 11; refine (zzBytes11_no _ _ _ _ _ _ hn).mono ?_; rintro e w' ⟨rfl, rfl⟩)
    go_ret
    exact ⟨rfl, Below.refl _ _⟩
  · have HN : Hid (a = none → n = 0 ∧ c = 0) := hnil
    have HC : Hid (∀ x, a = some x → ∀ i, i < n → w.cell? (x.add i) = some (.int .u8 (zs.getD i 0))) := hcell
    have HL : Hid (zs.length = n) := hl
    clear hnil hcell hl
    go_enter Try.func4, Try.ntmps4
    go_upto_if 23 with (first | (go_at_call 11; refine (zzBytes11_any _ _ _ _ _ _ (by omega)).mono ?_; rintro e w' ⟨rfl, rfl⟩) | (go_at_call 8; refine (copy_row _ _ _ zs _ (by omega) HL.out HN.out HC.out).mono ?_; rintro e w1 ⟨ao, c1, rfl, hown1, hgr1⟩))
    have HO1 : Hid (w1.ownsRow w.heap.size 5 1 (.slice ao n c1) n (zs.map (Value.int .u8))) := hown1
    have HG1 : Hid (w.grownBy w1 none) := hgr1
    clear hown1 hgr1
    go_cut [7] (fun v wx => ∃ al, v = .string al ∧ Alpha al ∧ w1 = wx)
    case first =>
      cases a1
      · go_wp2
        go_meet
        case rel => exact ⟨_, rfl, alpha_lower, rfl⟩
      · go_wp2
        go_meet
        case rel => exact ⟨_, rfl, alpha_upper, rfl⟩
    case rest =>
      obtain ⟨al, rfl, ⟨hal, hdig⟩, rfl⟩ := hcut
      have HD : Hid (∀ (i : Nat) (hi : i < 16), hexd (((al[i]'(by omega)).toNat : Int)) = i) := hdig
      have hb := HG1.out.size
      clear hdig HN HC
      go_wp2_with (at_make; refine wpList_make_own _ rfl _ _ 22 rfl w1.heap.size 5 i0 (.int .u8 0) 1 Try.underlying22 hi hz0 hz1 _ _ _ (4 + n) rfl rfl (by omega) ?b1 ?b2 ?b3 ?_)
      case b1 => rw [hz2]; omega
      case b2 => unfold maxLen; omega
      case b3 => exact Nat.le_refl _
      intro w2 hown2 hgr2
      have HB0 : Hid (Has w1 w2 (4 + n) []) := ⟨hown2, hgr2⟩
      clear hown2 hgr2
      go_wp2_with (at_builtin; refine wpList_append_fits _ rfl _ _ 22 rfl w1.heap.size 5 i0 1 Try.underlying22 hi hz1 w1.heap.size 0 (4 + n) _ rfl (HB0.out.1.alloc _) ⟨w2.heap.size, 0, none⟩ 1 1 [.int .u8 ((al[n0 / 4096]'(by omega)).toNat : Int)] rfl rfl (cell_one_new _ _ _) (one_cell _) (by omega) ?_)
      intro wx1 hown hgr
      have HB1 : Hid (Has w1 wx1 (4 + n) ([] ++ [((al[n0 / 4096]'(by omega)).toNat : Int)])) := has_push HB0.out hown hgr
      clear hown hgr HB0
      go_wp2_with (at_builtin; refine wpList_append_fits _ rfl _ _ 22 rfl w1.heap.size 5 i0 1 Try.underlying22 hi hz1 w1.heap.size 1 (4 + n) _ rfl (HB1.out.1.alloc _) ⟨wx1.heap.size, 0, none⟩ 1 1 [.int .u8 ((al[n0 / 256 % 16]'(by omega)).toNat : Int)] rfl rfl (cell_one_new _ _ _) (one_cell _) (by omega) ?_)
      intro wx2 hown hgr
      have HB2 : Hid (Has w1 wx2 (4 + n) ([((al[n0 / 4096]'(by omega)).toNat : Int)] ++ [((al[n0 / 256 % 16]'(by omega)).toNat : Int)])) := has_push HB1.out hown hgr
      clear hown hgr HB1
      go_wp2_with (at_builtin; refine wpList_append_fits _ rfl _ _ 22 rfl w1.heap.size 5 i0 1 Try.underlying22 hi hz1 w1.heap.size 2 (4 + n) _ rfl (HB2.out.1.alloc _) ⟨wx2.heap.size, 0, none⟩ 1 1 [.int .u8 ((al[n0 / 16 % 16]'(by omega)).toNat : Int)] rfl rfl (cell_one_new _ _ _) (one_cell _) (by omega) ?_)
      intro wx3 hown hgr
      have HB3 : Hid (Has w1 wx3 (4 + n) ([((al[n0 / 4096]'(by omega)).toNat : Int), ((al[n0 / 256 % 16]'(by omega)).toNat : Int)] ++ [((al[n0 / 16 % 16]'(by omega)).toNat : Int)])) := has_push HB2.out hown hgr
      clear hown hgr HB2
      go_wp2_with (at_builtin; refine wpList_append_fits _ rfl _ _ 22 rfl w1.heap.size 5 i0 1 Try.underlying22 hi hz1 w1.heap.size 3 (4 + n) _ rfl (HB3.out.1.alloc _) ⟨wx3.heap.size, 0, none⟩ 1 1 [.int .u8 ((al[n0 % 16]'(by omega)).toNat : Int)] rfl rfl (cell_one_new _ _ _) (one_cell _) (by omega) ?_)
      intro wx4 hown hgr
      have HB4 : Hid (Has w1 wx4 (4 + n) ([((al[n0 / 4096]'(by omega)).toNat : Int), ((al[n0 / 256 % 16]'(by omega)).toNat : Int), ((al[n0 / 16 % 16]'(by omega)).toNat : Int)] ++ [((al[n0 % 16]'(by omega)).toNat : Int)])) := has_push HB3.out hown hgr
      clear hown hgr HB3
      obtain ⟨Q, hQ⟩ : ∃ Q : List Int, Q = [((al[n0 / 4096]'(by omega)).toNat : Int), ((al[n0 / 256 % 16]'(by omega)).toNat : Int), ((al[n0 / 16 % 16]'(by omega)).toNat : Int), ((al[n0 % 16]'(by omega)).toNat : Int)] := ⟨_, rfl⟩
      have HQ : Hid (Q = [((al[n0 / 4096]'(by omega)).toNat : Int), ((al[n0 / 256 % 16]'(by omega)).toNat : Int), ((al[n0 / 16 % 16]'(by omega)).toNat : Int), ((al[n0 % 16]'(by omega)).toNat : Int)]) := hQ
      have HQ4 : Hid (Q.length = 4) := (show Q.length = 4 by rw [hQ]; rfl)
      have HB : Hid (Has w1 wx4 (4 + n) Q) := by rw [hQ]; exact HB4.out
      clear HB4 hQ
      go_wp2
      go_loopw [9, 10] (fun v i wr => ∃ (k : Nat) (R : List Int), k ≤ n ∧ R.length = k ∧ i = .int .i64 k ∧ v = .slice (some ⟨w1.heap.size, 0, none⟩) (Q ++ R).length (4 + n) ∧ Has w1 wr (4 + n) (Q ++ R)) (fun _ i _ => n - (intOf i).toNat)
      case atStart => exact ⟨0, [], Nat.zero_le _, rfl, rfl, by rw [List.append_nil, HQ4.out], by rw [List.append_nil]; exact HB.out⟩
      case round =>
        clear HB
        obtain ⟨k, R, hk, hR, rfl, rfl, hhas⟩ := hrel
        obtain ⟨T, hT⟩ : ∃ T, T = Q ++ R := ⟨_, rfl⟩
        rw [← hT] at hhas ⊢
        have HT : Hid (T = Q ++ R) := hT
        have HR : Hid (R.length = k) := hR
        have hTl : T.length ≤ 4 + k := by rw [hT, List.length_append, HQ4.out]; omega
        have hTl' : 4 + k ≤ T.length := by rw [hT, List.length_append, HQ4.out]; omega
        have HH : Hid (Has w1 wr (4 + n) T) := hhas
        clear hT hR
        by_cases hlt : k < n
        · rcases HO1.out.2 with ⟨_, e⟩ | ⟨g, cap, cur, e, hg1, hg2, _⟩
          · omega
          · have e2 : ao = some ⟨g, 0, none⟩ ∧ c1 = cap := by injection e with e1 e2 e3; exact ⟨e1, e3⟩
            obtain ⟨rfl, rfl⟩ := e2
            have hgl : g < w1.heap.size := lt_of_block hg2
            have hck : wr.cell? ⟨g, k, none⟩ = some (.int .u8 (zs.getD k 0)) := by
              have hzl := HL.out
              rw [World.cell?_of_block (hhas.2.block g hgl (by simp)), HO1.out.cellAt k (by omega)]
              simp [List.getD, hzl, hlt]
            obtain ⟨x, hx⟩ : ∃ x, x = zs.getD k 0 := ⟨_, rfl⟩
            rw [← hx] at hck
            clear hx e hg1 hg2 hhas
            go_wp2_with (at_builtin; refine wpList_append_fits _ rfl _ _ 22 rfl w1.heap.size 5 i0 1 Try.underlying22 hi hz1 w1.heap.size T.length (4 + n) _ rfl (HH.out.1.alloc _) ⟨wr.heap.size, 0, none⟩ 1 1 [.int .u8 x] rfl rfl (cell_one_new _ _ _) (one_cell _) (by omega) ?_)
            intro w3 hown hgr
            have HB : Hid (Has w1 w3 (4 + n) (T ++ [x])) := has_push HH.out hown hgr
            clear hown hgr hck
            go_wp2
            go_roundw
            case rel =>
              have R1 : Has w1 w3 (4 + n) (Q ++ (R ++ [x])) := by have := HB.out; rw [HT.out, List.append_assoc] at this; exact this
              have R2 : T.length + 1 = (Q ++ (R ++ [x])).length := by rw [HT.out]; simp; omega
              have R3 : (R ++ [x]).length = k + 1 := by rw [List.length_append, HR.out]; rfl
              first
                | exact ⟨k + 1, R ++ [x], by omega, R3, by go_num, by rw [R2], R1⟩
                | ((repeat apply Exists.intro); exact ⟨⟨k + 1, R ++ [x], by omega, R3, by go_num, by rw [R2], R1⟩, rfl⟩)
            case measure => simp [intOf]; omega
        · obtain rfl : k = n := by omega
          obtain ⟨z, hz⟩ : ∃ z : Nat → Int, z = fun i => Q.getD i 0 := ⟨_, rfl⟩
          have hcl : ∀ i, i < 4 → wr.cell? ⟨w1.heap.size, 0 + i, none⟩ = some (.int .u8 (z i)) := by
            intro i hi
            have hq := HQ4.out
            rw [Nat.zero_add, hhas.1.cellAt i (by omega), HT.out, hz]
            simp [List.getD, List.getElem?_append, hq, hi]
          have g0 : hexd (z 0) = (n0 / 4096 : Nat) := by rw [hz, HQ.out]; exact HD.out _ (by omega)
          have g1 : hexd (z 1) = (n0 / 256 % 16 : Nat) := by rw [hz, HQ.out]; exact HD.out _ (by omega)
          have g2 : hexd (z 2) = (n0 / 16 % 16 : Nat) := by rw [hz, HQ.out]; exact HD.out _ (by omega)
          have g3 : hexd (z 3) = (n0 % 16 : Nat) := by rw [hz, HQ.out]; exact HD.out _ (by omega)
          have hzb : ∀ i, 0 ≤ z i ∧ z i ≤ 255 := by
            intro i
            rw [hz, HQ.out]
            match i with
            | 0 => exact byte_bd _
            | 1 => exact byte_bd _
            | 2 => exact byte_bd _
            | 3 => exact byte_bd _
            | _ + 4 => simp [List.getD]
          have hyes : ∀ i, i < 4 → 0 ≤ hexd (z i) := by
            intro i hi
            rcases (show i = 0 ∨ i = 1 ∨ i = 2 ∨ i = 3 by omega) with rfl | rfl | rfl | rfl <;> omega
          have hval := hacc4 h0 g0 g1 g2 g3
          have hcap : T.length = 4 + k := by omega
          have hbel : Below w.heap.size w wr := (Below.refl _ _).grown (grown_trans HG1.out hhas.2) (Nat.le_refl _) (by intro k hk; cases hk)
          have C := zzHex4_yes w1.heap.size 0 T.length (4 + k) z wr (by omega) (by omega) (by unfold maxLen; omega) hcl hzb hyes
          rw [hval] at C
          have HC : Hid (Calls Try.prog 9 #[.slice (some ⟨w1.heap.size, 0, none⟩) T.length (4 + k)] wr fun e w' => e = .returned (.tuple #[.int .i32 (n0 : Int), .bool true]) ∧ w' = wr) := C
          have HBL : Hid (Below w.heap.size w wr) := hbel
          clear C hval hyes hzb g0 g1 g2 g3 hcl hz hhas hcap hbel
          go_wp2_with fail
          refine HC.out.mono ?_
          rintro e w' ⟨rfl, rfl⟩
          go_wp2
          go_ret
          exact ⟨by simp, HBL.out⟩
end Go.Proofs.Qxb6605287a
