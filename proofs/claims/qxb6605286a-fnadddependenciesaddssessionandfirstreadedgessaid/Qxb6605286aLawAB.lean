/-
  The law of addDependencies: the walk.
-/
import Derived.Test.Qxb6605286aZZAdd
import Derived.Test.Qxb6605286aAddM
import Derived.Deep.DeepCutAuto
namespace Go.Proofs.Qxb6605286a
open Go.RowKit

set_option maxHeartbeats 2000000 in
set_option maxRecDepth 10000 in
theorem lawA_big (w : World) (n ns F R m r c0 c1 c2 c3 c4 c5 : Nat) (a0 a1 a2 a3 a4 a5 : Option Addr) (h : 16384 < n ∨ 16384 < ns ∨ 16384 < F ∨ 16384 < R ∨ 16384 < m ∨ 16384 < r ∨ (n ≤ 16384 ∧ ns ≤ 16384 ∧ F ≤ 16384 ∧ R ≤ 16384 ∧ m ≤ 16384 ∧ r ≤ 16384 ∧ 1048576 < 16 * n + 4 * ns + 4 * F + 24 * R + 12 * m + 32 * r)) :
    Calls Try.prog 5 #[.slice a0 n c0, .slice a1 ns c1, .slice a2 F c2, .slice a3 R c3, .slice a4 m c4, .slice a5 r c5] w fun e w' => e = .returned (.bool true) ∧ Below w.heap.size w w' := by
  by_cases h1 : 16384 < n
  · clear h
    go_enter Try.func5, Try.ntmps5
    go_wp2
    go_ret
    exact ⟨rfl, Below.refl _ _⟩
  by_cases h2 : 16384 < ns
  · clear h
    go_enter Try.func5, Try.ntmps5
    go_wp2
    go_ret
    exact ⟨rfl, Below.refl _ _⟩
  by_cases h3 : 16384 < F
  · clear h
    go_enter Try.func5, Try.ntmps5
    go_wp2
    go_ret
    exact ⟨rfl, Below.refl _ _⟩
  by_cases h4 : 16384 < R
  · clear h
    go_enter Try.func5, Try.ntmps5
    go_wp2
    go_ret
    exact ⟨rfl, Below.refl _ _⟩
  by_cases h5 : 16384 < m
  · clear h
    go_enter Try.func5, Try.ntmps5
    go_wp2
    go_ret
    exact ⟨rfl, Below.refl _ _⟩
  by_cases h6 : 16384 < r
  · clear h
    go_enter Try.func5, Try.ntmps5
    go_wp2
    go_ret
    exact ⟨rfl, Below.refl _ _⟩
  have h7 : 1048576 < 16 * n + 4 * ns + 4 * F + 24 * R + 12 * m + 32 * r := by omega
  clear h
  go_enter Try.func5, Try.ntmps5
  go_wp2
  go_ret
  exact ⟨rfl, Below.refl _ _⟩
end Go.Proofs.Qxb6605286a
