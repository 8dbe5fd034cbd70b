import Derived.Test.Qxb6608978aAdjWalks
namespace Go.Proofs.Qxb6608978a
open Go.RowKit

theorem words_hold (n : Nat) (h : n ≠ 0) : 0 < (wordsOf n : Int) ∧ (n : Int) * n ≤ (wordsOf n : Int) * 64 ∧ ((wordsOf n : Int) - 1) * 64 < (n : Int) * n := by
  have h1 : 1 ≤ n * n := Nat.mul_pos (by omega) (by omega)
  have e : (n : Int) * n = ((n * n : Nat) : Int) := by rw [Int.natCast_mul]
  rw [e]
  unfold wordsOf
  omega

set_option maxHeartbeats 400000 in
theorem tight_zero (w : World) :
    Calls Try.prog 5 #[.int .i64 0] w fun e w' => e = .returned (.bool true) ∧ Grown w w' := by
  have hg := zzW_grown 0 (Grown.refl w)
  have hc := zzNewAdj_any 0 (by omega) w
  have e0 : wordsOf 0 = 0 := rfl
  rw [e0] at hc
  go_enter Try.func5, Try.ntmps5
  go_wp2_with (go_at_call 8; refine hc.mono ?_; rintro e w' ⟨rfl, rfl⟩)
  go_loop [6] (fun i => i = .int .i64 0) (fun _ => 0)
  case atStart => rfl
  case round =>
    subst hrel
    go_wp2
    go_ret
    exact ⟨rfl, hg⟩

set_option maxHeartbeats 400000 in
theorem tight_in (n : Nat) (hn : n ≠ 0) (h : n ≤ 2048) (w : World) :
    Calls Try.prog 5 #[.int .i64 n] w fun e w' => e = .returned (.bool true) ∧ Grown w w' := by
  have hm : (n : Int) * n ≤ 4194304 := by
    have : n * n ≤ 2048 * 2048 := Nat.mul_le_mul h h
    have h2 : ((n * n : Nat) : Int) ≤ 4194304 := by omega
    rwa [Int.natCast_mul] at h2
  have hm0 : 0 ≤ (n : Int) * n := Int.mul_nonneg (by omega) (by omega)
  have hw := wordsOf_le n h
  have h2048 : (n : Int) ≤ 2048 := by omega
  have hrow := zzW_row n w
  have hg := zzW_grown n (Grown.refl w)
  obtain ⟨hk0, hk1, hk2⟩ := words_hold n hn
  have hc := zzNewAdj_any n h w
  generalize wordsOf n = k at *
  go_enter Try.func5, Try.ntmps5
  go_wp2_with (go_at_call 8; refine hc.mono ?_; rintro e w' ⟨rfl, rfl⟩)
  go_loop [6] (fun i => ∃ j : Nat, j ≤ k ∧ i = .int .i64 j) (fun i => k - (intOf i).toNat)
  case atStart => exact ⟨0, Nat.zero_le _, rfl⟩
  case round =>
    obtain ⟨j, hj, rfl⟩ := hrel
    by_cases hlt : j < k
    · have hcell := hrow.cell hlt
      go_wp2
      go_round
      case rel => exact ⟨j + 1, by omega, by go_num⟩
      case measure => simp [intOf]; omega
    · go_wp2
      go_ret
      exact ⟨rfl, hg⟩

set_option maxHeartbeats 400000 in
theorem tight_any (a0 : Int) (w : World) :
    Calls Try.prog 5 #[.int .i64 a0] w fun e w' => e = .returned (.bool true) ∧ Grown w w' := by
  by_cases h0 : a0 < 0
  · go_enter Try.func5, Try.ntmps5
    go_wp2
    go_ret
    exact ⟨rfl, Grown.refl _⟩
  · by_cases h1 : 2048 < a0
    · go_enter Try.func5, Try.ntmps5
      go_wp2
      go_ret
      exact ⟨rfl, Grown.refl _⟩
    · obtain ⟨n, rfl⟩ : ∃ n : Nat, a0 = n := ⟨a0.toNat, by omega⟩
      by_cases hn : n = 0
      · subst hn; exact tight_zero w
      · exact tight_in n hn (by omega) w

end Go.Proofs.Qxb6608978a
