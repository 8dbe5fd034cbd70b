import Derived.Test.Qxb6609130aZZ
namespace Go.Proofs.Qxb6609130a
open Go.RowKit

theorem drawn_below {B : Nat} {a w : World} (h : Below B a w) (n : Nat) : Below B a (w.drewN n) :=
  h.trans ⟨rfl, rfl, rfl, Nat.le_refl _, fun _ _ => rfl⟩

set_option maxHeartbeats 400000 in
theorem shape_plain (f : Int) (w : World) :
    Calls Try.prog 10 #[.bool false, .int .i64 f] w fun e w' => e = .returned (.tuple #[.int .i64 2, .int .i64 64, .bool false]) ∧ w' = w := by
  go_enter Try.func10, Try.ntmps10
  go_wp2
  go_ret3
  exact ⟨rfl, rfl⟩

set_option maxHeartbeats 400000 in
theorem shape_hit (k : Nat) (hk : k < 64) (w : World) :
    Calls Try.prog 10 #[.bool true, .int .i64 k] w fun e w' => e = .returned (.tuple #[.int .i64 3, .int .i64 (k + 1), .bool true]) ∧ w' = w := by
  have hk' : (k : Int) < 64 := by omega
  go_enter Try.func10, Try.ntmps10
  go_wp2
  go_ret3
  exact ⟨rfl, rfl⟩

set_option maxHeartbeats 400000 in
theorem shape_miss (f : Int) (hf : f < 0 ∨ 64 ≤ f) (w : World) :
    Calls Try.prog 10 #[.bool true, .int .i64 f] w fun e w' => e = .returned (.tuple #[.int .i64 3, .int .i64 64, .bool false]) ∧ w' = w := by
  rcases hf with hf | hf
  · go_enter Try.func10, Try.ntmps10
    go_wp2
    go_ret3
    exact ⟨rfl, rfl⟩
  · have h0 : ¬ f < 0 := by omega
    have hd : decide (f < 64) = false := decide_eq_false (by omega)
    go_enter Try.func10, Try.ntmps10
    go_wp2
    go_ret3
    exact ⟨rfl, rfl⟩

end Go.Proofs.Qxb6609130a
