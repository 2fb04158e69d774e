import Derived.Test.Qxb6602835aRows
import Derived.WalkKit
import Derived.ProofKit
import Derived.OpenShut
import Derived.ShutString
namespace Go.Proofs.Qxb6602835a.lower
open Go.ChangeShapes Go.WideShapes Go.ChangeAt Go.RowKit

/-- What 'lowerASCII' computes. -/
def low (b : Int) : Int := if 65 ≤ b ∧ b ≤ 90 then b + 32 else b

theorem low_cap {b : Int} (h : 65 ≤ b) (h' : b ≤ 90) : low b = b + 32 := by unfold low; rw [if_pos ⟨h, h'⟩]
theorem low_not {b : Int} (h : b < 65 ∨ 90 < b) : low b = b := by unfold low; rw [if_neg (by omega)]

/-- A byte's bounds out of its 'wf'. -/
theorem byte_of {b : Int} (h : (Lit.int .u8 b).wf = true) : 0 ≤ b ∧ b ≤ 255 := by
  have := bounds_u8 h
  omega

theorem ret_int {k : IntKind} {a b : Int} (h : a = b) : Ending.returned (.int k a) = .returned (.int k b) := by rw [h]

/-- 'ZZlowerASCII' (and 'lowerASCII', into which it calls): it computes 'low' and touches nothing. -/
theorem lower_any (b : Int) (h0 : 0 ≤ b) (h1 : b ≤ 255) (w : World) :
    Calls Try.prog 11 #[.int .u8 b] w fun e w' => e = .returned (.int .u8 (low b)) ∧ w = w' := by
  by_cases c1 : 65 ≤ b
  · by_cases c2 : b ≤ 90
    · go_enter Try.func11, Try.ntmps11
      go_wp2
      go_ret
      exact ⟨ret_int (low_cap c1 c2).symm, rfl⟩
    · go_enter Try.func11, Try.ntmps11
      go_wp2
      go_ret
      exact ⟨ret_int (low_not (by omega)).symm, rfl⟩
  · go_enter Try.func11, Try.ntmps11
    go_wp2
    go_ret
    exact ⟨ret_int (low_not (by omega)).symm, rfl⟩
end Go.Proofs.Qxb6602835a.lower
