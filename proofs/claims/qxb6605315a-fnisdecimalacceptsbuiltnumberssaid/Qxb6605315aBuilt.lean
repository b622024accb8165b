/-
  THE WALK OF FnIsDecimalAcceptsBuiltNumbers.
-/
import Derived.Test.Qxb6605315aApp
import Derived.Test.Qxb6605315aText
import Derived.Test.Qxb6605315aZZ
namespace Go.Proofs.Qxb6605315a
open Go.RowKit

/-- The text so far: it lies in block 'w.heap.size', of 320 cells. -/
def Has (w wx : World) (v : Value) (T : List Int) : Prop :=
  v = .slice (some ⟨w.heap.size, 0, none⟩) T.length 320 ∧ wx.ownsRow w.heap.size 5 1 (.slice (some ⟨w.heap.size, 0, none⟩) T.length 320) T.length (T.map (Value.int .u8)) ∧ w.grownBy wx none
theorem grown_own {w wx w1 : World} (h : w.grownBy wx none) (hg : wx.grownBy w1 (some w.heap.size)) : w.grownBy w1 none :=
  ⟨hg.os.trans h.os, hg.tape.trans h.tape, hg.output.trans h.output, Nat.le_trans h.size hg.size, fun k hk _ => by
    rw [hg.block k (Nat.lt_of_lt_of_le hk h.size) (by intro e; injection e; omega)]; exact h.block k hk (by simp)⟩
theorem has_push {w wx w1 : World} {T : List Int} {c : Int} {o : Obj} (h : w.grownBy wx none) (ho : w1.ownsRow w.heap.size 5 1 (.slice (some ⟨w.heap.size, 0, none⟩) (T.length + 1) 320) (T.length + 1) (T.map (Value.int .u8) ++ [.int .u8 c]))
    (hg : (wx.alloc o).grownBy w1 (some w.heap.size)) : Has w w1 (.slice (some ⟨w.heap.size, 0, none⟩) (T.length + 1) 320) (T ++ [c]) :=
  ⟨by simp, by simpa using ho, grown_own h (grown_alloc hg)⟩
theorem has_app {w wx w1 : World} {T ds : List Int} (h : w.grownBy wx none) (ho : w1.ownsRow w.heap.size 5 1 (.slice (some ⟨w.heap.size, 0, none⟩) (T.length + ds.length) 320) (T.length + ds.length) (T.map (Value.int .u8) ++ ds.map (Value.int .u8)))
    (hg : wx.grownBy w1 (some w.heap.size)) : Has w w1 (.slice (some ⟨w.heap.size, 0, none⟩) (T.length + ds.length) 320) (T ++ ds) :=
  ⟨by simp, by simpa using ho, grown_own h hg⟩
theorem one_cell (c : Int) : ∀ u ∈ [Value.int .u8 c], u.oneCell' = true := by intro u hu; simp at hu; subst hu; rfl

theorem len_ok {m k : Nat} (h : m ≤ 320) (hk : k ≤ 10) : m + k ≤ maxLen := by unfold maxLen; omega
theorem len_ok' {m k : Nat} (h : m ≤ 320) (hk : k ≤ 10) : k + m ≤ maxLen := by unfold maxLen; omega
theorem zz_is {s : ByteArray} {b : Bool} (w : World) (h : isDec s = b) (hs : s.size ≤ maxLen) : Calls Try.prog 6 #[.string s] w fun e w' => e = .returned (.bool b) ∧ w' = w := by
  subst h
  exact zzIsDecimal_any s w hs

set_option maxHeartbeats 4000000 in
set_option maxRecDepth 10000 in
theorem built_any (a0 : Bool) (a1 : Bool) (n2 : Nat) (a3 : Bool) (n4 : Nat) (a5 : Bool) (n6 : Nat) (a7 : Bool) (a8 : Bool) (a9 : Bool) (a10 : Bool) (n11 : Nat) (h2 : n2 < 18446744073709551616) (h4 : n4 ≤ 255) (h6 : n6 < 18446744073709551616) (h11 : n11 ≤ 65535) (w : World) :
    Calls Try.prog 4 #[.bool a0, .bool a1, .int .u64 n2, .bool a3, .int .u8 n4, .bool a5, .int .u64 n6, .bool a7, .bool a8, .bool a9, .bool a10, .int .u16 n11] w fun e w' => e = .returned (.bool true) ∧ Below w.heap.size w w' := by
  obtain ⟨i0, hi, hz0, hz1, hz2⟩ := info_parts Try.info5
  have H2 : Hid (n2 < 10 ^ 20) := (show n2 < 10 ^ 20 by omega)
  have H6 : Hid (n6 < 10 ^ 20) := (show n6 < 10 ^ 20 by omega)
  by_cases hx : 999 < (n11 : Int)
  · go_enter Try.func4, Try.ntmps4
    go_wp2
    go_ret
    exact ⟨rfl, Below.refl _ _⟩
  · have H11 : Hid (n11 < 10 ^ 3) := (show n11 < 10 ^ 3 by omega)
    go_enter Try.func4, Try.ntmps4
    go_upto_if 32 with (at_make; refine wpList_make_own _ rfl _ _ 25 rfl w.heap.size 5 i0 (.int .u8 0) 1 Try.underlying25 hi hz0 hz1 _ _ _ 320 rfl rfl rfl ?b1 ?b2 ?b3 ?_)
    case b2 => unfold maxLen; omega
    intro w1 hown1 hgr1
    have HO : Hid (w1.ownsRow w.heap.size 5 1 (.slice (some ⟨w.heap.size, 0, none⟩) 0 320) 0 []) := hown1
    have HG : Hid (w.grownBy w1 none) := hgr1
    have hs1 := hgr1.size
    clear hown1 hgr1
    go_upto_if 32 with fail
    go_cut [25] (fun v wx => Has w wx v (negL a0))
    case first =>
      cases a0
      · go_wp2
        go_meet
        case rel => exact ⟨rfl, HO.out, HG.out⟩
      · go_wp2_with (at_builtin; refine wpList_append_fits _ rfl _ _ 25 rfl w.heap.size 5 i0 1 Try.underlying25 hi hz1 w.heap.size 0 320 [] rfl (HO.out.alloc _) ⟨w1.heap.size, 0, none⟩ 1 1 [.int .u8 45] rfl rfl (cell_one_new _ _ _) (one_cell _) (by omega) ?_)
        intro w2 hown2 hgr2
        have R : Hid (Has w w2 (.slice (some ⟨w.heap.size, 0, none⟩) 1 320) [45]) := has_push (T := []) HG.out hown2 hgr2
        clear hown2 hgr2
        go_wp2
        go_meet
        case rel => exact R.out
    case rest =>
      clear HO HG
      obtain ⟨rfl, hown, hgr⟩ := hcut
      have hA1 : (negL a0).length ≤ 1 := by cases a0 <;> simp [negL]
      have HA : Hid (negL a0 = [] ∨ negL a0 = [45]) := (show negL a0 = [] ∨ negL a0 = [45] by cases a0 <;> simp [negL])
      have HAB : Hid (Byts (negL a0)) := (show Byts (negL a0) by cases a0 <;> simp [negL, Byts])
      obtain ⟨A, hAe⟩ : ∃ A, A = negL a0 := ⟨_, rfl⟩
      rw [← hAe] at hown hA1 HA HAB ⊢
      have HAE : Hid (A = negL a0) := hAe
      have HO : Hid (wc.ownsRow w.heap.size 5 1 (.slice (some ⟨w.heap.size, 0, none⟩) A.length 320) A.length (A.map (Value.int .u8))) := hown
      have HG : Hid (w.grownBy wc none) := hgr
      clear hAe hown hgr
      go_upto_if 36 with fail
      go_cut [25] (fun v wx => ∃ D1, IntPart a1 D1 ∧ D1.length ≤ 20 ∧ Has w wx v (A ++ D1))
      case first =>
        cases a1
        · go_wp2
          go_meet
          case rel => exact ⟨[], ⟨by intro d hd; simp at hd, by simp⟩, by simp, by simp, by simpa using HO.out, HG.out⟩
        · go_wp2_with (go_at_call 8; refine (app_any w.heap.size w.heap.size A.length 320 20 _ n2 _ HO.out (by omega) (by omega) h2 H2.out (by omega) (by omega)).mono ?_)
          rintro e w2 ⟨ds, rfl, hd1, hd2, hds, hown2, hgr2⟩
          have R : Hid (Has w w2 (.slice (some ⟨w.heap.size, 0, none⟩) (A.length + ds.length) 320) (A ++ ds)) := has_app HG.out hown2 hgr2
          have R2 : Hid (IntPart true ds) := ⟨hds, by constructor; omega; simp⟩
          clear hown2 hgr2 hds
          go_wp2
          go_meet
          case rel => exact ⟨ds, R2.out, hd2, R.out⟩
      case rest =>
        clear HO HG
        obtain ⟨D1, hI, hD1, rfl, hown, hgr⟩ := hcut
        have HI : Hid (IntPart a1 D1) := hI
        obtain ⟨T1, hT⟩ : ∃ T, T = A ++ D1 := ⟨_, rfl⟩
        have hT1 : T1.length ≤ 21 := by rw [hT]; simp; omega
        rw [← hT] at hown ⊢
        have HT1 : Hid (T1 = A ++ D1) := hT
        have HO : Hid (wc.ownsRow w.heap.size 5 1 (.slice (some ⟨w.heap.size, 0, none⟩) T1.length 320) T1.length (T1.map (Value.int .u8))) := hown
        have HG : Hid (w.grownBy wc none) := hgr
        clear hT hown hgr hI
        go_upto_if 40 with fail
        go_cut [25] (fun v wx => ∃ F D2, DotPart a3 a5 F D2 ∧ F.length ≤ 276 ∧ Has w wx v (T1 ++ F))
        case first =>
          cases a3
          · go_wp2
            go_meet
            case rel => exact ⟨[], [], ⟨.inl ⟨rfl, rfl, rfl⟩, by intro d hd; simp at hd, by simp⟩, by simp, by simp, by simpa using HO.out, HG.out⟩
          · cases a5
            · go_wp2_with (at_builtin; refine wpList_append_fits _ rfl _ _ 25 rfl w.heap.size 5 i0 1 Try.underlying25 hi hz1 w.heap.size T1.length 320 _ rfl (HO.out.alloc _) ⟨wc.heap.size, 0, none⟩ 1 1 [.int .u8 46] rfl rfl (cell_one_new _ _ _) (one_cell _) (by omega) ?_)
              intro w2 hown2 hgr2
              have R : Hid (Has w w2 (.slice (some ⟨w.heap.size, 0, none⟩) (T1.length + 1) 320) (T1 ++ [46])) := has_push HG.out hown2 hgr2
              clear hown2 hgr2
              go_wp2
              go_meet
              case rel => exact ⟨[46], [], ⟨.inr ⟨rfl, rfl⟩, by intro d hd; simp at hd, by simp⟩, by simp, R.out⟩
            · go_wp2_with (at_builtin; refine wpList_append_fits _ rfl _ _ 25 rfl w.heap.size 5 i0 1 Try.underlying25 hi hz1 w.heap.size T1.length 320 _ rfl (HO.out.alloc _) ⟨wc.heap.size, 0, none⟩ 1 1 [.int .u8 46] rfl rfl (cell_one_new _ _ _) (one_cell _) (by omega) ?_)
              intro w2 hown2 hgr2
              have R : Hid (Has w w2 (.slice (some ⟨w.heap.size, 0, none⟩) (T1.length + 1) 320) (T1 ++ [46])) := has_push HG.out hown2 hgr2
              clear hown2 hgr2 HO HG
              go_wp2
              go_loopw [25, 26] (fun v z wr => ∃ k : Nat, k ≤ n4 ∧ z = .int .i64 k ∧ Has w wr v (T1 ++ (46 :: List.replicate k 48))) (fun _ z _ => n4 - (intOf z).toNat)
              case atStart => exact ⟨0, Nat.zero_le _, rfl, R.out⟩
              case round =>
                clear R
                obtain ⟨k, hk, rfl, rfl, hown, hgr⟩ := hrel
                obtain ⟨T2, hT⟩ : ∃ T, T = T1 ++ (46 :: List.replicate k 48) := ⟨_, rfl⟩
                have hT2 : T2.length ≤ 22 + k := by rw [hT]; simp; omega
                rw [← hT] at hown ⊢
                have HT2 : Hid (T2 = T1 ++ (46 :: List.replicate k 48)) := hT
                have HO : Hid (wr.ownsRow w.heap.size 5 1 (.slice (some ⟨w.heap.size, 0, none⟩) T2.length 320) T2.length (T2.map (Value.int .u8))) := hown
                have HG : Hid (w.grownBy wr none) := hgr
                clear hT hown hgr
                by_cases hlt : k < n4
                · go_wp2_with (at_builtin; refine wpList_append_fits _ rfl _ _ 25 rfl w.heap.size 5 i0 1 Try.underlying25 hi hz1 w.heap.size T2.length 320 _ rfl (HO.out.alloc _) ⟨wr.heap.size, 0, none⟩ 1 1 [.int .u8 48] rfl rfl (cell_one_new _ _ _) (one_cell _) (by omega) ?_)
                  intro w3 hown3 hgr3
                  have R : Hid (Has w w3 (.slice (some ⟨w.heap.size, 0, none⟩) (T2.length + 1) 320) (T2 ++ [48])) := has_push HG.out hown3 hgr3
                  clear hown3 hgr3
                  go_wp2
                  go_roundw
                  case rel =>
                    have e : T2 ++ [48] = T1 ++ (46 :: List.replicate (k + 1) 48) := by rw [HT2.out, List.replicate_succ']; simp
                    have R2 := R.out
                    rw [e] at R2
                    first
                      | exact ⟨k + 1, by omega, by go_num, R2⟩
                      | ((repeat apply Exists.intro); exact ⟨⟨k + 1, by omega, by go_num, R2⟩, rfl⟩)
                  case measure => simp [intOf]; omega
                · obtain rfl : k = n4 := by omega
                  go_wp2_with (go_at_call 8; refine (app_any w.heap.size w.heap.size T2.length 320 20 _ n6 _ HO.out (by omega) (by omega) h6 H6.out (by omega) (by omega)).mono ?_)
                  rintro e w2 ⟨ds, rfl, hd1, hd2, hds, hown2, hgr2⟩
                  have R : Hid (Has w w2 (.slice (some ⟨w.heap.size, 0, none⟩) (T2.length + ds.length) 320) (T2 ++ ds)) := has_app HG.out hown2 hgr2
                  have HDS : Hid (Digs ds) := hds
                  clear hown2 hgr2 hds
                  go_wp2
                  go_meet
                  case rel =>
                    have R2 := R.out
                    rw [show T2 ++ ds = T1 ++ (46 :: (List.replicate k 48 ++ ds)) by rw [HT2.out]; simp] at R2
                    refine ⟨46 :: (List.replicate k 48 ++ ds), List.replicate k 48 ++ ds, ⟨.inr ⟨rfl, rfl⟩, ?_, ?_⟩, by simp; omega, R2⟩
                    · intro d hd
                      rcases List.mem_append.1 hd with h | h
                      · have := List.eq_of_mem_replicate h; omega
                      · exact HDS.out d h
                    · refine ⟨fun h => ?_, fun h => by simp at h⟩
                      rw [List.length_append] at h
                      omega
        case rest =>
          clear HO HG
          obtain ⟨F, D2, hF, hFl, rfl, hown, hgr⟩ := hcut
          have HF : Hid (DotPart a3 a5 F D2) := hF
          obtain ⟨T2, hT⟩ : ∃ T, T = T1 ++ F := ⟨_, rfl⟩
          have hT2 : T2.length ≤ 297 := by rw [hT]; simp; omega
          rw [← hT] at hown ⊢
          have HT2 : Hid (T2 = T1 ++ F) := hT
          have HO : Hid (wc.ownsRow w.heap.size 5 1 (.slice (some ⟨w.heap.size, 0, none⟩) T2.length 320) T2.length (T2.map (Value.int .u8))) := hown
          have HG : Hid (w.grownBy wc none) := hgr
          clear hT hown hgr hF
          go_upto_if 57 with fail
          go_cut [25] (fun v wx => ∃ X, ExpPart X ∧ X.length ≤ 5 ∧ Has w wx v (T2 ++ X))
          case first =>
            cases a7
            · go_wp2
              go_meet
              case rel => exact ⟨[], .inl rfl, by simp, by simp, by simpa using HO.out, HG.out⟩
            · go_upto_if 58 with fail
              go_cut [25] (fun v wx => ∃ c : Int, (c = 101 ∨ c = 69) ∧ Has w wx v (T2 ++ [c]))
              case first =>
                cases a8
                · go_wp2_with (at_builtin; refine wpList_append_fits _ rfl _ _ 25 rfl w.heap.size 5 i0 1 Try.underlying25 hi hz1 w.heap.size T2.length 320 _ rfl (HO.out.alloc _) ⟨wc.heap.size, 0, none⟩ 1 1 [.int .u8 101] rfl rfl (cell_one_new _ _ _) (one_cell _) (by omega) ?_)
                  intro w2 hown2 hgr2
                  have R : Hid (Has w w2 (.slice (some ⟨w.heap.size, 0, none⟩) (T2.length + 1) 320) (T2 ++ [101])) := has_push HG.out hown2 hgr2
                  clear hown2 hgr2
                  go_wp2
                  go_meet
                  case rel => exact ⟨101, .inl rfl, R.out⟩
                · go_wp2_with (at_builtin; refine wpList_append_fits _ rfl _ _ 25 rfl w.heap.size 5 i0 1 Try.underlying25 hi hz1 w.heap.size T2.length 320 _ rfl (HO.out.alloc _) ⟨wc.heap.size, 0, none⟩ 1 1 [.int .u8 69] rfl rfl (cell_one_new _ _ _) (one_cell _) (by omega) ?_)
                  intro w2 hown2 hgr2
                  have R : Hid (Has w w2 (.slice (some ⟨w.heap.size, 0, none⟩) (T2.length + 1) 320) (T2 ++ [69])) := has_push HG.out hown2 hgr2
                  clear hown2 hgr2
                  go_wp2
                  go_meet
                  case rel => exact ⟨69, .inr rfl, R.out⟩
              case rest =>
                clear HO HG
                obtain ⟨c, hc, rfl, hown, hgr⟩ := hcut
                have HC : Hid (c = 101 ∨ c = 69) := hc
                obtain ⟨T3, hT⟩ : ∃ T, T = T2 ++ [c] := ⟨_, rfl⟩
                have hT3 : T3.length ≤ 298 := by rw [hT]; simp; omega
                rw [← hT] at hown ⊢
                have HT3 : Hid (T3 = T2 ++ [c]) := hT
                have HO : Hid (wc.ownsRow w.heap.size 5 1 (.slice (some ⟨w.heap.size, 0, none⟩) T3.length 320) T3.length (T3.map (Value.int .u8))) := hown
                have HG : Hid (w.grownBy wc none) := hgr
                clear hT hown hgr hc
                go_upto_if 65 with fail
                go_cut [25] (fun v wx => ∃ sg : List Int, (sg = [] ∨ sg = [43] ∨ sg = [45]) ∧ Has w wx v (T3 ++ sg))
                case first =>
                  cases a9
                  · go_wp2
                    go_meet
                    case rel => exact ⟨[], .inl rfl, by simp, by simpa using HO.out, HG.out⟩
                  · cases a10
                    · go_wp2_with (at_builtin; refine wpList_append_fits _ rfl _ _ 25 rfl w.heap.size 5 i0 1 Try.underlying25 hi hz1 w.heap.size T3.length 320 _ rfl (HO.out.alloc _) ⟨wc.heap.size, 0, none⟩ 1 1 [.int .u8 43] rfl rfl (cell_one_new _ _ _) (one_cell _) (by omega) ?_)
                      intro w2 hown2 hgr2
                      have R : Hid (Has w w2 (.slice (some ⟨w.heap.size, 0, none⟩) (T3.length + 1) 320) (T3 ++ [43])) := has_push HG.out hown2 hgr2
                      clear hown2 hgr2
                      go_wp2
                      go_meet
                      case rel => exact ⟨[43], .inr (.inl rfl), R.out⟩
                    · go_wp2_with (at_builtin; refine wpList_append_fits _ rfl _ _ 25 rfl w.heap.size 5 i0 1 Try.underlying25 hi hz1 w.heap.size T3.length 320 _ rfl (HO.out.alloc _) ⟨wc.heap.size, 0, none⟩ 1 1 [.int .u8 45] rfl rfl (cell_one_new _ _ _) (one_cell _) (by omega) ?_)
                      intro w2 hown2 hgr2
                      have R : Hid (Has w w2 (.slice (some ⟨w.heap.size, 0, none⟩) (T3.length + 1) 320) (T3 ++ [45])) := has_push HG.out hown2 hgr2
                      clear hown2 hgr2
                      go_wp2
                      go_meet
                      case rel => exact ⟨[45], .inr (.inr rfl), R.out⟩
                case rest =>
                  clear HO HG
                  obtain ⟨sg, hsg, rfl, hown, hgr⟩ := hcut
                  have hsl : sg.length ≤ 1 := by rcases hsg with rfl | rfl | rfl <;> simp
                  have HSG : Hid (sg = [] ∨ sg = [43] ∨ sg = [45]) := hsg
                  obtain ⟨T4, hT⟩ : ∃ T, T = T3 ++ sg := ⟨_, rfl⟩
                  have hT4 : T4.length ≤ 299 := by rw [hT]; simp; omega
                  rw [← hT] at hown ⊢
                  have HT4 : Hid (T4 = T3 ++ sg) := hT
                  have HO : Hid (wc.ownsRow w.heap.size 5 1 (.slice (some ⟨w.heap.size, 0, none⟩) T4.length 320) T4.length (T4.map (Value.int .u8))) := hown
                  have HG : Hid (w.grownBy wc none) := hgr
                  clear hT hown hgr hsg
                  go_wp2_with (go_at_call 8; refine (app_any w.heap.size w.heap.size T4.length 320 3 _ n11 _ HO.out (by omega) (by omega) (by omega) H11.out (by omega) (by omega)).mono ?_)
                  rintro e w2 ⟨ds, rfl, hd1, hd2, hds, hown2, hgr2⟩
                  have R : Hid (Has w w2 (.slice (some ⟨w.heap.size, 0, none⟩) (T4.length + ds.length) 320) (T4 ++ ds)) := has_app HG.out hown2 hgr2
                  have HDS : Hid (Digs ds) := hds
                  clear hown2 hgr2 hds
                  go_wp2
                  go_meet
                  case rel =>
                    have R2 := R.out
                    rw [show T4 ++ ds = T2 ++ (c :: (sg ++ ds)) by rw [HT4.out, HT3.out]; simp] at R2
                    exact ⟨c :: (sg ++ ds), .inr ⟨c, sg, ds, rfl, HC.out, HSG.out, HDS.out, hd1, hd2⟩, by simp; omega, R2⟩
          case rest =>
            clear HO HG
            obtain ⟨X, hX, hXl, rfl, hown, hgr⟩ := hcut
            obtain ⟨T, hT⟩ : ∃ T, T = T2 ++ X := ⟨_, rfl⟩
            have hTl : T.length ≤ 302 := by rw [hT]; simp; omega
            rw [← hT] at hown ⊢
            have eT : T = negL a0 ++ (D1 ++ (F ++ X)) := by rw [hT, HT2.out, HT1.out, HAE.out]; simp
            have hbel : Below w.heap.size w wc := (Below.refl _ _).grown hgr (Nat.le_refl _) (by intro k hk; cases hk)
            have HBL : Hid (Below w.heap.size w wc) := hbel
            obtain ⟨wb, hwb⟩ : ∃ b, b = (a1 || (a3 && a5)) := ⟨_, rfl⟩
            have hBy : Byts T := by
              rw [eT]
              refine (show Byts (negL a0) by cases a0 <;> simp [negL, Byts]).append (HI.out.1.byts.append (Byts.append ?_ ?_))
              · rcases HF.out.1 with ⟨_, rfl, _⟩ | ⟨_, rfl⟩
                · intro d hd; simp at hd
                · intro d hd
                  rcases List.mem_cons.1 hd with rfl | h
                  · omega
                  · have := HF.out.2.1 d h; omega
              · rcases hX with rfl | ⟨c, sg, D3, rfl, hc, hsg, hD, _⟩
                · intro d hd; simp at hd
                · intro d hd
                  rcases List.mem_cons.1 hd with rfl | h
                  · omega
                  · rcases List.mem_append.1 h with h | h
                    · rcases hsg with rfl | rfl | rfl <;> simp at h <;> omega
                    · have := hD d h; omega
            have hA : negL a0 = [] ∨ negL a0 = [45] := by cases a0 <;> simp [negL]
            have q1 : isDec (strOfNums T) = wb := by
              rw [hwb]; exact text_plain HI.out HF.out hX (negL a0) hA (by rw [← eT]; exact at_str hBy)
            have q2 : isDec (strOfNums T ++ ⟨#[120]⟩) = false := by
              rw [show (⟨#[120]⟩ : ByteArray) = strOfNums [120] from rfl, str_append]
              exact text_x HI.out HF.out hX (negL a0) hA (by rw [← eT]; exact at_str (hBy.append (by intro d hd; simp at hd; omega)))
            have q3 : isDec (strOfNums T ++ ⟨#[101, 49, 48, 48, 48]⟩) = false := by
              rw [show (⟨#[101, 49, 48, 48, 48]⟩ : ByteArray) = strOfNums [101, 49, 48, 48, 48] from rfl, str_append]
              exact text_e1000 HI.out HF.out hX (negL a0) hA (by rw [← eT]; exact at_str (hBy.append (by intro d hd; simp at hd; omega)))
            have q4 : isDec (⟨#[43]⟩ ++ strOfNums T) = false := by
              rw [show (⟨#[43]⟩ : ByteArray) = strOfNums [43] from rfl, str_append]
              exact text_bad (A := []) (c := 43) (T := T) (.inl ⟨rfl, by omega⟩) (by omega) (at_str (Byts.append (by intro d hd; simp at hd; omega) hBy))
            have q5 : isDec (⟨#[45]⟩ ++ strOfNums T) = (wb && !a0) := by
              rw [show (⟨#[45]⟩ : ByteArray) = strOfNums [45] from rfl, str_append, hwb]
              exact text_minus HI.out HF.out hX (by rw [← eT]; exact at_str (Byts.append (by intro d hd; simp at hd; omega) hBy))
            have hss : (strOfNums T).size ≤ 320 := by rw [strOfNums_size]; omega
            have hcell : ∀ i, i < T.length → wc.cell? ⟨w.heap.size, 0 + i, none⟩ = some (.int .u8 (T.getD i 0)) := by
              intro i hi
              rw [Nat.zero_add, hown.cellAt i (by omega)]
              simp [List.getD, hi]
            have hconv := run_convert_bytes_arg (P := Try.prog) wc 25 5 Try.underlying25 Try.underlying5 w.heap.size 0 T.length 320 T rfl hcell 9 Try.underlying9
            obtain ⟨s, hS⟩ : ∃ s, s = strOfNums T := ⟨_, rfl⟩
            rw [← hS] at q1 q2 q3 q4 q5 hss hconv
            have Q1 : Hid (isDec s = wb) := q1
            have Q2 : Hid (isDec (s ++ ⟨#[120]⟩) = false) := q2
            have Q3 : Hid (isDec (s ++ ⟨#[101, 49, 48, 48, 48]⟩) = false) := q3
            have Q4 : Hid (isDec (⟨#[43]⟩ ++ s) = false) := q4
            have Q5 : Hid (isDec (⟨#[45]⟩ ++ s) = (wb && !a0)) := q5
            have HWB : Hid (wb = (a1 || (a3 && a5))) := hwb
            clear q1 q2 q3 q4 q5 hS hcell hown hgr hBy hX hT eT hA hwb hbel HI HF HT1 HT2 HAE HA HAB H2 H6 H11
            go_upto_region 26 with fail
            go_cut [28] (fun v wx => v = .bool wb ∧ wc = wx)
            case first =>
              cases a1
              · cases a3
                · go_wp2
                  go_meet
                  case rel => exact ⟨by rw [HWB.out]; rfl, rfl⟩
                · go_wp2
                  go_meet
                  case rel => exact ⟨by rw [HWB.out]; rfl, rfl⟩
              · go_wp2
                go_meet
                case rel => exact ⟨by rw [HWB.out]; rfl, rfl⟩
            case rest =>
              obtain ⟨rfl, rfl⟩ := hcut
              go_wp2_with fail
              refine (zz_is _ Q1.out (by unfold maxLen; omega)).mono ?_
              rintro e w' ⟨rfl, rfl⟩
              go_wp2_with fail
              refine (zz_is _ Q2.out (by rw [ByteArray.size_append']; exact len_ok hss (by decide))).mono ?_
              rintro e w' ⟨rfl, rfl⟩
              go_wp2_with fail
              refine (zz_is _ Q3.out (by rw [ByteArray.size_append']; exact len_ok hss (by decide))).mono ?_
              rintro e w' ⟨rfl, rfl⟩
              go_wp2_with fail
              refine (zz_is _ Q4.out (by rw [ByteArray.size_append']; exact len_ok' hss (by decide))).mono ?_
              rintro e w' ⟨rfl, rfl⟩
              go_wp2_with fail
              refine (zz_is _ Q5.out (by rw [ByteArray.size_append']; exact len_ok' hss (by decide))).mono ?_
              rintro e w' ⟨rfl, rfl⟩
              clear HWB
              cases wb
              · go_wp2
                go_ret
                exact ⟨rfl, HBL.out⟩
              · cases a0
                · go_wp2
                  go_ret
                  exact ⟨rfl, HBL.out⟩
                · go_wp2
                  go_ret
                  exact ⟨rfl, HBL.out⟩
end Go.Proofs.Qxb6605315a
