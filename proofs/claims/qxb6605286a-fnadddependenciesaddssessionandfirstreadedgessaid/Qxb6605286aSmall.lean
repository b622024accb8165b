/-
  firstReadFrom, slices.Index, slices.Contains, pos.
-/
import Derived.Test.Qxb6605286aCopy2
import Derived.Test.Qxb6605286aMem2
import Derived.Deep.QuietTactic
import Derived.BigQuiet
namespace Go.Proofs.Qxb6605286a
open Go.RowKit

set_option maxHeartbeats 1000000 in
set_option maxRecDepth 10000 in
theorem firstRead_at (ao : Option Addr) (l c i : Nat) (f : Int) (Q : Nat → T4) (w : World) (hl : l ≤ 4096) (hC : Cells w ao (l * 4) (dF Q)) (hi : i < l) (h : (Q i).2.2.1 = f) (hn : ∀ j, j < i → (Q j).2.2.1 ≠ f) :
    Calls Try.prog 17 #[.slice ao l c, .int .i32 f] w fun e w' => e = .returned (.int .i64 i) ∧ w = w' := by
  have HC : Hid (Cells w ao (l * 4) (dF Q)) := hC
  have HN : Hid (∀ j, j < i → (Q j).2.2.1 ≠ f) := hn
  have HE : Hid ((Q i).2.2.1 = f) := h
  clear hC hn h
  go_enter Try.func17, Try.ntmps17
  go_wp2
  go_loopw [8] (fun x wr => ∃ k : Nat, k ≤ i ∧ x = .int .i64 k ∧ w = wr) (fun x _ => i - (intOf x).toNat)
  case atStart => exact ⟨0, Nat.zero_le _, rfl, rfl⟩
  case round =>
    obtain ⟨k, hk, rfl, rfl⟩ := hrel
    obtain ⟨b, off, ex, hb, hcl⟩ := HC.out.at (by omega)
    subst ex
    have hkl : k < l := by omega
    have c0 : w.cell? ⟨b, off + k * 4 + 2, none⟩ = some (.int .i32 (Q k).2.2.1) := by rw [Nat.add_assoc, hcl (k * 4 + 2) (by omega), dF2]
    clear hcl
    by_cases e : k = i
    · subst e
      have h0 : ((Q k).2.2.1 == f) = true := by rw [HE.out]; simp
      go_wp2
      go_ret
      exact ⟨rfl, rfl⟩
    · have h0 : ((Q k).2.2.1 == f) = false := by have := HN.out k (by omega); simpa using this
      go_wp2
      go_roundw
      case rel => exact ⟨k + 1, by omega, by go_num, trivial⟩
      case measure => simp [intOf]; omega

set_option maxHeartbeats 1000000 in
set_option maxRecDepth 10000 in
theorem index_any (ao : Option Addr) (c : Nat) (x : Int) (L : List Int) (w : World) (hl : L.length ≤ 4096) (hC : Cells w ao L.length (fun j => .int .i32 (L.getD j 0))) :
    Calls Try.prog 29 #[.slice ao L.length c, .int .i32 x] w fun e w' => ∃ r : Int, e = .returned (.int .i64 r) ∧ decide (r ≥ 0) = decide (x ∈ L) ∧ w = w' := by
  have HC : Hid (Cells w ao L.length (fun j => .int .i32 (L.getD j 0))) := hC
  clear hC
  obtain ⟨n, hn⟩ : ∃ n, n = L.length := ⟨_, rfl⟩
  have HNN : Hid (n = L.length) := hn
  rw [← hn] at HC hl ⊢
  clear hn
  go_enter Try.func29, Try.ntmps29
  go_wp2
  go_loopw [8] (fun y wr => ∃ k : Nat, k ≤ n ∧ y = .int .i64 k ∧ (∀ j, j < k → L.getD j 0 ≠ x) ∧ w = wr) (fun y _ => n - (intOf y).toNat)
  case atStart => exact ⟨0, Nat.zero_le _, rfl, fun j hj => by omega, rfl⟩
  case round =>
    obtain ⟨k, hk, rfl, hno, rfl⟩ := hrel
    have HNO : Hid (∀ j, j < k → L.getD j 0 ≠ x) := hno
    clear hno
    by_cases hkl : k < n
    · obtain ⟨b, off, ex, hb, hcl⟩ := HC.out.at (by omega)
      subst ex
      have c0 : w.cell? ⟨b, off + k, none⟩ = some (.int .i32 (L.getD k 0)) := hcl k hkl
      clear hcl
      obtain ⟨y, hy⟩ : ∃ y, y = L.getD k 0 := ⟨_, rfl⟩
      have HY : Hid (y = L.getD k 0) := hy
      rw [← hy] at c0
      clear hy
      by_cases e : x = y
      · have h0 : (x == y) = true := by simp [e]
        have HE : Hid (x = y) := e
        clear e
        go_wp2
        go_ret
        refine ⟨_, rfl, ?_, rfl⟩
        have hm : x ∈ L := by
          rw [HE.out, HY.out]
          have := HNN.out
          rw [List.getD_eq_getElem?_getD, List.getElem?_eq_getElem (by omega)]
          exact List.getElem_mem _
        simp [hm]
      · have h0 : (x == y) = false := by simp [e]
        have HE : Hid (¬ x = y) := e
        clear e
        go_wp2
        go_roundw
        case rel =>
          refine ⟨k + 1, by omega, by go_num, fun j hj => ?_, trivial⟩
          by_cases ej : j = k
          · rw [ej, ← HY.out]; exact fun h => HE.out h.symm
          · exact HNO.out j (by omega)
        case measure => simp [intOf]; omega
    · obtain rfl : k = n := by omega
      go_wp2
      go_ret
      refine ⟨_, rfl, ?_, rfl⟩
      have hm : x ∉ L := by
        intro hx
        obtain ⟨j, hj, e⟩ := List.getElem_of_mem hx
        refine HNO.out j (by rw [HNN.out]; exact hj) ?_
        rw [List.getD_eq_getElem?_getD, List.getElem?_eq_getElem hj]; exact e
      simp [hm]

set_option maxHeartbeats 1000000 in
theorem contains_any (ao : Option Addr) (c : Nat) (x : Int) (L : List Int) (w : World) (hl : L.length ≤ 4096) (hC : Cells w ao L.length (fun j => .int .i32 (L.getD j 0))) :
    Calls Try.prog 28 #[.slice ao L.length c, .int .i32 x] w fun e w' => e = .returned (.bool (decide (x ∈ L))) ∧ w = w' := by
  obtain ⟨n, hn⟩ : ∃ n, n = L.length := ⟨_, rfl⟩
  have HNN : Hid (n = L.length) := hn
  have key := index_any ao c x L w hl hC
  rw [← hn] at key ⊢
  have HK : Hid _ := key
  clear hC hl hn key
  go_enter Try.func28, Try.ntmps28
  go_wp2_with fail
  refine Calls.mono HK.out ?_
  rintro e w' ⟨r, rfl, hr, rfl⟩
  have HR : Hid (decide (r ≥ 0) = decide (x ∈ L)) := hr
  clear hr
  go_wp2
  go_ret
  refine ⟨?_, rfl⟩
  rw [← HR.out]
  rfl

set_option maxHeartbeats 1000000 in
theorem pos_any (G t n F cS cF : Nat) (aS aF : Option Addr) (s f : Nat → Int) (w : World) (hn : n ≤ 16384) (hF : F ≤ 16384) (h2 : w.cell? ⟨G, 2, none⟩ = some (.slice aS n cS)) (h3 : w.cell? ⟨G, 3, none⟩ = some (.slice aF F cF))
    (hS : Cells w aS n (fun i => .int .i32 (s i))) (hFC : Cells w aF F (fun i => .int .i32 (f i))) (ht : t < n) (hs : 0 ≤ s t ∧ s t < F) (hf : 0 ≤ f (s t).toNat ∧ f (s t).toNat ≤ t) :
    Calls Try.prog 26 #[.pointer (some ⟨G, 0, none⟩), .int .i32 t] w fun e w' => e = .returned (.int .i32 ((t : Int) - f (s t).toNat)) ∧ ∃ q, w' = w.drewN q := by
  obtain ⟨u, hu⟩ : ∃ u : Nat, s t = u := ⟨(s t).toNat, by omega⟩
  have hun : u < F := by omega
  rw [hu, Int.toNat_natCast] at hf ⊢
  obtain ⟨b, off, ex, _, hcl⟩ := hS.at (by omega)
  subst ex
  have c0 : w.cell? ⟨b, off + t, none⟩ = some (.int .i32 (u : Int)) := by rw [hcl t ht, hu]
  obtain ⟨b', off', ex', _, hcl'⟩ := hFC.at (by omega)
  subst ex'
  have c1 : w.cell? ⟨b', off' + u, none⟩ = some (.int .i32 (f u)) := hcl' u hun
  obtain ⟨y, hy⟩ : ∃ y, y = f u := ⟨_, rfl⟩
  rw [← hy] at hf c1 ⊢
  clear hcl hcl' hu hs hS hFC hy
  go_enter Try.func26, Try.ntmps26
  go_wp2
  go_quiet (fail)
  go_wp2
  go_ret
  exact ⟨rfl, _, rfl⟩
end Go.Proofs.Qxb6605286a
