import Derived.Test.Qxb6608978aAdjWalks
namespace Go.Proofs.Qxb6608978a
open Go.RowKit

theorem grows_law (n m : Nat) (h : n ≤ m) :
    (n : Int) * n ≤ (m : Int) * m ∧ ((m : Int) * m - (n : Int) * n) / 64 ≤ (wordsOf m : Int) - wordsOf n ∧ (wordsOf m : Int) - wordsOf n ≤ ((m : Int) * m - (n : Int) * n + 63) / 64 := by
  have h1 : n * n ≤ m * m := Nat.mul_le_mul h h
  have e : (n : Int) * n = ((n * n : Nat) : Int) := by rw [Int.natCast_mul]
  have e' : (m : Int) * m = ((m * m : Nat) : Int) := by rw [Int.natCast_mul]
  rw [e, e']
  unfold wordsOf
  generalize n * n = a at *
  generalize m * m = b at *
  omega

theorem square_le (n : Nat) (h : n ≤ 2048) : (n : Int) * n ≤ 4194304 ∧ 0 ≤ (n : Int) * n := by
  have : n * n ≤ 2048 * 2048 := Nat.mul_le_mul h h
  have h2 : ((n * n : Nat) : Int) ≤ 4194304 := by omega
  rw [Int.natCast_mul] at h2
  exact ⟨h2, Int.mul_nonneg (by omega) (by omega)⟩

set_option maxHeartbeats 800000 in
theorem grows_in (n m : Nat) (hnm : n ≤ m) (hm : m ≤ 2048) (w : World) (a b : Int) (hab : (a = n ∧ b = m) ∨ (a = m ∧ b = n ∧ n < m)) :
    Calls Try.prog 6 #[.int .i64 a, .int .i64 b] w fun e w' => e = .returned (.bool true) ∧ Grown w w' := by
  obtain ⟨s1, s2⟩ := square_le m hm
  obtain ⟨s3, s4⟩ := square_le n (by omega)
  obtain ⟨g1, g2, g3⟩ := grows_law n m hnm
  have hwm := wordsOf_le m hm
  have hwn := wordsOf_le n (by omega)
  have hm' : (m : Int) ≤ 2048 := by omega
  have hn' : (n : Int) ≤ 2048 := by omega
  have hnm' : (n : Int) ≤ m := by omega
  have hz := zzW_size n w
  have hr1 := zzW_old (n := m) (zzW_row n w)
  have hr2 := zzW_row m (zzW n w)
  rw [hz] at hr2
  have hg := zzW_grown m (zzW_grown n (Grown.refl w))
  have hc1 := zzNewAdj_any n (by omega) w
  have hc2 := zzNewAdj_any m hm (zzW n w)
  rw [hz] at hc2
  generalize wordsOf n = k at *
  generalize wordsOf m = l at *
  rcases hab with ⟨rfl, rfl⟩ | ⟨rfl, rfl, hlt⟩
  all_goals
    go_enter Try.func6, Try.ntmps6
    go_wp2_with fail
    refine hc1.mono ?_
    rintro e w' ⟨rfl, rfl⟩
    go_wp2_with fail
    refine hc2.mono ?_
    rintro e w' ⟨rfl, rfl⟩
    go_wp2
    go_loop [9] (fun i => ∃ j : Nat, j ≤ k ∧ i = .int .i64 j) (fun i => k - (intOf i).toNat)
    case atStart => exact ⟨0, Nat.zero_le _, rfl⟩
    case round =>
      obtain ⟨j, hj, rfl⟩ := hrel
      by_cases hjk : j < k
      · have hcell := hr1.cell hjk
        go_wp2
        go_round
        case rel => exact ⟨j + 1, by omega, by go_num⟩
        case measure => simp [intOf]; omega
      · go_wp2
        go_loop [10] (fun i => ∃ j : Nat, j ≤ l ∧ i = .int .i64 j) (fun i => l - (intOf i).toNat)
        case atStart => exact ⟨0, Nat.zero_le _, rfl⟩
        case round =>
          obtain ⟨q, hq, rfl⟩ := hrel
          by_cases hql : q < l
          · have hcell := hr2.cell hql
            go_wp2
            go_round
            case rel => exact ⟨q + 1, by omega, by go_num⟩
            case measure => simp [intOf]; omega
          · go_wp2
            go_ret
            exact ⟨rfl, hg⟩

end Go.Proofs.Qxb6608978a
