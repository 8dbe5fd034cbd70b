import Derived.Test.Qxb6608978aRows
import Derived.WalkKit
import Derived.ProofKit
namespace Go.Proofs.Qxb6608978a
open Go.RowKit

/-- what 'is' computes -/
def isV (b : Bool) : Int := if b then 1 else 0

set_option maxHeartbeats 400000 in
theorem is_any (b : Bool) (w : World) :
    Calls Try.prog 9 #[.bool b] w fun e w' => e = .returned (.int .i64 (isV b)) ∧ w' = w := by
  cases b
  · go_enter Try.func9, Try.ntmps9
    go_wp2
    go_ret
    exact ⟨rfl, rfl⟩
  · go_enter Try.func9, Try.ntmps9
    go_wp2
    go_ret
    exact ⟨rfl, rfl⟩

set_option maxHeartbeats 400000 in
theorem zzis_any (b : Bool) (w : World) :
    Calls Try.prog 7 #[.bool b] w fun e w' => e = .returned (.int .i64 (isV b)) ∧ w' = w := by
  go_enter Try.func7, Try.ntmps7
  go_wp2_with (go_at_call 9; refine (is_any _ _).mono ?_; rintro e w' ⟨rfl, rfl⟩)
  go_ret
  exact ⟨rfl, rfl⟩

end Go.Proofs.Qxb6608978a
