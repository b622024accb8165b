/-
  ZZisDecimal: isDecimal handed on.
-/
import Derived.Test.Qxb6605315aDec
namespace Go.Proofs.Qxb6605315a
open Go.RowKit

theorem zzIsDecimal_any (s : ByteArray) (w : World) (hs : s.size ≤ maxLen) :
    Calls Try.prog 6 #[.string s] w fun e w' => e = .returned (.bool (isDec s)) ∧ w' = w := by
  go_enter Try.func6, Try.ntmps6
  go_wp2_with (go_at_call 9; refine (isDecimal_any _ _ hs).mono ?_; rintro e w' ⟨rfl, rfl⟩)
  go_ret
  exact ⟨rfl, rfl⟩
end Go.Proofs.Qxb6605315a
