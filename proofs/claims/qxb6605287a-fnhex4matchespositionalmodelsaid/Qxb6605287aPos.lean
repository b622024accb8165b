/-
  THE WALK OF FnHex4MatchesPositionalModel.
-/
import Derived.Test.Qxb6605287aVal
import Derived.Test.Qxb6605287aCopy
namespace Go.Proofs.Qxb6605287a
open Go.RowKit

theorem zzBytes7_any (a : Option Addr) (n c : Nat) (w : World) (h : n ≤ 1048576) :
    Calls Try.prog 7 #[.slice a n c] w fun e w' => e = .returned (.bool true) ∧ w = w' := by
  go_enter Try.func7, Try.ntmps7
  go_wp2
  go_ret
  exact ⟨rfl, rfl⟩
theorem zzBytes7_no (a : Option Addr) (n c : Nat) (w : World) (h : 1048576 < n) :
    Calls Try.prog 7 #[.slice a n c] w fun e w' => e = .returned (.bool false) ∧ w = w' := by
  go_enter Try.func7, Try.ntmps7
  go_wp2
  go_ret
  exact ⟨rfl, rfl⟩

set_option maxHeartbeats 2000000 in
set_option maxRecDepth 10000 in
theorem pos_any (a : Option Addr) (n c : Nat) (zs : List Int) (w : World) (hm : n ≤ maxLen) (hl : zs.length = n) (hnil : a = none → n = 0 ∧ c = 0) (hcell : ∀ x, a = some x → ∀ i, i < n → w.cell? (x.add i) = some (.int .u8 (zs.getD i 0))) (hz : ∀ z ∈ zs, 0 ≤ z ∧ z ≤ 255) :
    Calls Try.prog 3 #[.slice a n c] w fun e w' => e = .returned (.bool true) ∧ Below w.heap.size w w' := by
  unfold maxLen at hm
  by_cases hn : 1048576 < n
  · clear hcell hnil hz
    go_enter Try.func3, Try.ntmps3
    go_wp2_with (go_at_call 7; refine (zzBytes7_no _ _ _ _ hn).mono ?_; rintro e w' ⟨rfl, rfl⟩)
    go_ret
    exact ⟨rfl, Below.refl _ _⟩
  · have HN : Hid (a = none → n = 0 ∧ c = 0) := hnil
    have HC : Hid (∀ x, a = some x → ∀ i, i < n → w.cell? (x.add i) = some (.int .u8 (zs.getD i 0))) := hcell
    have HL : Hid (zs.length = n) := hl
    have HZ : Hid (∀ z ∈ zs, 0 ≤ z ∧ z ≤ 255) := hz
    clear hnil hcell hl hz
    go_enter Try.func3, Try.ntmps3
    go_upto_region 6 with (first | (go_at_call 7; refine (zzBytes7_any _ _ _ _ (by omega)).mono ?_; rintro e w' ⟨rfl, rfl⟩) | (go_at_call 8; refine (copy_row _ _ _ zs _ (by omega) HL.out HN.out HC.out).mono ?_; rintro e w1 ⟨ao, c1, rfl, hown1, hgr1⟩))
    have HO1 : Hid (w1.ownsRow w.heap.size 5 1 (.slice ao n c1) n (zs.map (Value.int .u8))) := hown1
    have HB : Hid (Below w.heap.size w w1) := (Below.refl _ _).grown hgr1 (Nat.le_refl _) (by intro k hk; cases hk)
    clear hown1 hgr1 HN HC
    by_cases h4 : n < 4
    · go_wp2_with fail
      refine (zzHex4_short ao n c1 w1 h4).mono ?_
      rintro e w' ⟨rfl, rfl⟩
      go_wp2
      go_ret
      exact ⟨rfl, HB.out⟩
    · rcases HO1.out.2 with ⟨_, e⟩ | ⟨g, cap, cur, e, hg1, hg2, hnc, hcm, _⟩
      · omega
      · have e2 : ao = some ⟨g, 0, none⟩ ∧ c1 = cap := by injection e with e1 e2 e3; exact ⟨e1, e3⟩
        obtain ⟨rfl, rfl⟩ := e2
        obtain ⟨z, hz⟩ : ∃ z : Nat → Int, z = fun i => zs.getD i 0 := ⟨_, rfl⟩
        have hcl : ∀ i, i < 4 → w1.cell? ⟨g, 0 + i, none⟩ = some (.int .u8 (z i)) := by
          intro i hi
          have hzl := HL.out
          rw [Nat.zero_add, HO1.out.cellAt i (by omega), hz]
          simp [List.getD, show i < zs.length by omega]
        have hzb : ∀ i, 0 ≤ z i ∧ z i ≤ 255 := by
          intro i
          rw [hz]
          by_cases hi : i < zs.length
          · have := HZ.out zs[i] (List.getElem_mem hi)
            simpa [List.getD, hi] using this
          · simp [List.getD, List.getElem?_eq_none (show zs.length ≤ i by omega)]
        have k0 : w1.cell? ⟨g, 0, none⟩ = some (.int .u8 (z 0)) := by simpa using hcl 0 (by omega)
        have k1 : w1.cell? ⟨g, 1, none⟩ = some (.int .u8 (z 1)) := by simpa using hcl 1 (by omega)
        have k2 : w1.cell? ⟨g, 2, none⟩ = some (.int .u8 (z 2)) := by simpa using hcl 2 (by omega)
        have k3 : w1.cell? ⟨g, 3, none⟩ = some (.int .u8 (z 3)) := by simpa using hcl 3 (by omega)
        have b0 := hexd_lt (z 0)
        have b1 := hexd_lt (z 1)
        have b2 := hexd_lt (z 2)
        have b3 := hexd_lt (z 3)
        have HCL : Hid (∀ i, i < 4 → w1.cell? ⟨g, 0 + i, none⟩ = some (.int .u8 (z i))) := hcl
        have HZB : Hid (∀ i, 0 ≤ z i ∧ z i ≤ 255) := hzb
        have hcm' : c1 ≤ maxLen := hcm
        have HCM : Hid (c1 ≤ maxLen) := hcm'
        clear hcl hzb hz e hg1 hg2 hcm hcm'
        have no : ∀ k, k < 4 → hexd (z k) < 0 → Calls Try.prog 9 #[.slice (some ⟨g, 0, none⟩) n c1] w1 fun e w' => e = .returned (.tuple #[.int .i32 0, .bool false]) ∧ w' = w1 :=
          fun k hk hh => zzHex4_no g 0 n c1 k z w1 (by omega) hnc HCM.out HCL.out HZB.out hk hh
        have NO : Hid (∀ k, k < 4 → hexd (z k) < 0 → Calls Try.prog 9 #[.slice (some ⟨g, 0, none⟩) n c1] w1 fun e w' => e = .returned (.tuple #[.int .i32 0, .bool false]) ∧ w' = w1) := no
        clear no
        by_cases d0 : hexd (z 0) < 0
        · go_wp2_with fail
          refine (NO.out 0 (by omega) d0).mono ?_
          rintro e w' ⟨rfl, rfl⟩
          go_wp2_with (go_at_call 10; refine (hexVal_any _ _).mono ?_; rintro e w' ⟨rfl, rfl⟩)
          go_ret
          exact ⟨rfl, HB.out⟩
        · by_cases d1 : hexd (z 1) < 0
          · go_wp2_with fail
            refine (NO.out 1 (by omega) d1).mono ?_
            rintro e w' ⟨rfl, rfl⟩
            go_wp2_with (go_at_call 10; refine (hexVal_any _ _).mono ?_; rintro e w' ⟨rfl, rfl⟩)
            go_ret
            exact ⟨rfl, HB.out⟩
          · by_cases d2 : hexd (z 2) < 0
            · go_wp2_with fail
              refine (NO.out 2 (by omega) d2).mono ?_
              rintro e w' ⟨rfl, rfl⟩
              go_wp2_with (go_at_call 10; refine (hexVal_any _ _).mono ?_; rintro e w' ⟨rfl, rfl⟩)
              go_ret
              exact ⟨rfl, HB.out⟩
            · by_cases d3 : hexd (z 3) < 0
              · go_wp2_with fail
                refine (NO.out 3 (by omega) d3).mono ?_
                rintro e w' ⟨rfl, rfl⟩
                go_wp2_with (go_at_call 10; refine (hexVal_any _ _).mono ?_; rintro e w' ⟨rfl, rfl⟩)
                go_ret
                exact ⟨rfl, HB.out⟩
              · have hv : hacc z 4 = hexd (z 0) * 4096 + hexd (z 1) * 256 + hexd (z 2) * 16 + hexd (z 3) := by
                  simp only [hacc]; omega
                have yes := zzHex4_yes g 0 n c1 z w1 (by omega) hnc HCM.out HCL.out HZB.out (fun i hi => by
                  rcases (show i = 0 ∨ i = 1 ∨ i = 2 ∨ i = 3 by omega) with rfl | rfl | rfl | rfl <;> omega)
                rw [hv] at yes
                have YES : Hid (Calls Try.prog 9 #[.slice (some ⟨g, 0, none⟩) n c1] w1 fun e w' => e = .returned (.tuple #[.int .i32 (hexd (z 0) * 4096 + hexd (z 1) * 256 + hexd (z 2) * 16 + hexd (z 3)), .bool true]) ∧ w' = w1) := yes
                clear yes hv NO
                go_wp2_with fail
                refine YES.out.mono ?_
                rintro e w' ⟨rfl, rfl⟩
                go_wp2_with (go_at_call 10; refine (hexVal_any _ _).mono ?_; rintro e w' ⟨rfl, rfl⟩)
                go_ret
                exact ⟨by simp, HB.out⟩
end Go.Proofs.Qxb6605287a
