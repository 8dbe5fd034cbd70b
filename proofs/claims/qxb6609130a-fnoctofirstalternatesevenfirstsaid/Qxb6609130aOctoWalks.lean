import Derived.Test.Qxb6609130aRows
import Derived.WalkKit
import Derived.ProofKit
namespace Go.Proofs.Qxb6609130a
open Go.RowKit

/-- what 'OctoFirst' computes -/
def evenB (r : Int) : Bool := decide (r % 2 = 0)

theorem ret_bool {a b : Bool} (h : a = b) : Ending.returned (.bool a) = .returned (.bool b) := by rw [h]

theorem tmod_even (r : Int) : (r.tmod 2 == 0) = evenB r := by
  unfold evenB
  rw [Bool.eq_iff_iff]
  simp only [beq_iff_eq, decide_eq_true_eq]
  rw [← Int.dvd_iff_tmod_eq_zero, Int.dvd_iff_emod_eq_zero]

theorem even_wrap (x : Int) : evenB (wrap64 x) = evenB x := by
  unfold evenB wrap64
  rw [Bool.eq_iff_iff]
  simp only [decide_eq_true_eq]
  omega

theorem even_succ (x : Int) : evenB (x + 1) = !evenB x := by
  unfold evenB
  by_cases h : x % 2 = 0
  · rw [decide_eq_true h, decide_eq_false (by omega)]; rfl
  · rw [decide_eq_false h, decide_eq_true (by omega)]; rfl

theorem even_twice (x : Int) : evenB (x * 2) = true := by
  unfold evenB
  exact decide_eq_true (by omega)

theorem even_ahead (x : Int) (k : Nat) : evenB (x + 2 * (k : Int)) = evenB x := by
  unfold evenB
  rw [Bool.eq_iff_iff]
  simp only [decide_eq_true_eq]
  omega

set_option maxHeartbeats 400000 in
theorem octo_any (r : Int) (w : World) :
    Calls Try.prog 8 #[.int .i64 r] w fun e w' => e = .returned (.bool (evenB r)) ∧ w' = w := by
  go_enter Try.func8, Try.ntmps8
  go_wp2
  go_ret
  exact ⟨ret_bool (tmod_even r), rfl⟩

set_option maxHeartbeats 400000 in
theorem alternates_any (r : Int) (w : World) :
    Calls Try.prog 3 #[.int .i64 r] w fun e w' => e = .returned (.bool true) ∧ Grown w w' := by
  have h1 : evenB (wrap64 (r + 1)) = !evenB r := by rw [even_wrap, even_succ]
  have h2 : evenB (wrap64 (r * 2)) = true := by rw [even_wrap, even_twice]
  cases he : evenB r
  all_goals
    rw [he] at h1
    go_enter Try.func3, Try.ntmps3
    go_wp2_with (go_at_call 8; refine (octo_any _ _).mono ?_; rintro e w' ⟨rfl, rfl⟩)
    go_ret
    exact ⟨rfl, Grown.refl _⟩

/-- how often the Map goes first in the i rounds from r on -/
def cnt (r : Int) (i : Nat) : Nat := (i + if evenB r then 1 else 0) / 2

theorem cnt_le (r : Int) (i : Nat) : cnt r i ≤ i := by
  unfold cnt; split <;> omega

theorem cnt_zero (r : Int) : cnt r 0 = 0 := by
  unfold cnt; split <;> rfl

theorem cnt_twice (r : Int) (k : Nat) : cnt r (2 * k) = k := by
  unfold cnt; split <;> omega

theorem cnt_yes (r : Int) (i : Nat) (h : evenB (r + i) = true) : cnt r (i + 1) = cnt r i + 1 := by
  unfold evenB at h
  have h' := of_decide_eq_true h
  unfold cnt
  by_cases e : r % 2 = 0
  · have : evenB r = true := decide_eq_true e
    rw [this]; simp only [if_true]; omega
  · have : evenB r = false := decide_eq_false e
    rw [this]; simp only [Bool.false_eq_true, if_false]; omega

theorem cnt_no (r : Int) (i : Nat) (h : evenB (r + i) = false) : cnt r (i + 1) = cnt r i := by
  unfold evenB at h
  have h' := of_decide_eq_false h
  unfold cnt
  by_cases e : r % 2 = 0
  · have : evenB r = true := decide_eq_true e
    rw [this]; simp only [if_true]; omega
  · have : evenB r = false := decide_eq_false e
    rw [this]; simp only [Bool.false_eq_true, if_false]; omega

set_option maxHeartbeats 400000 in
theorem fair_in (r : Int) (k : Nat) (hk : (k : Int) ≤ 65536) (w : World) :
    Calls Try.prog 4 #[.int .i64 r, .int .i64 k] w fun e w' => e = .returned (.bool true) ∧ Grown w w' := by
  go_enter Try.func4, Try.ntmps4
  go_wp2
  go_loop [5, 6] (fun c i => ∃ j : Nat, j ≤ 2 * k ∧ i = .int .i64 j ∧ c = .int .i64 (cnt r j)) (fun _ i => 2 * k - (intOf i).toNat)
  case atStart => exact ⟨0, Nat.zero_le _, rfl, by rw [cnt_zero]; rfl⟩
  case round =>
    obtain ⟨j, hj, rfl, rfl⟩ := hrel
    have hcl := cnt_le r j
    have hw := even_wrap (r + j)
    by_cases hlt : j < 2 * k
    · have hlt' : (j : Int) < 2 * (k : Int) := by omega
      cases he : evenB (r + j)
      · have HS : Hid (cnt r (j + 1) = cnt r j) := cnt_no r j he
        rw [he] at hw
        go_wp2_with (go_at_call 8; refine (octo_any _ _).mono ?_; rintro e w' ⟨rfl, rfl⟩)
        go_round
        case rel => exact ⟨j + 1, by omega, by go_num, by rw [HS.out]⟩
        case measure => simp [intOf]; omega
      · have HS : Hid (cnt r (j + 1) = cnt r j + 1) := cnt_yes r j he
        rw [he] at hw
        go_wp2_with (go_at_call 8; refine (octo_any _ _).mono ?_; rintro e w' ⟨rfl, rfl⟩)
        go_round
        case rel => exact ⟨j + 1, by omega, by go_num, by rw [HS.out]; go_num⟩
        case measure => simp [intOf]; omega
    · obtain rfl : j = 2 * k := by omega
      have h2 := even_wrap (r + 2 * (k : Int))
      rw [even_ahead] at h2
      rw [cnt_twice] at hcl ⊢
      clear hw
      go_wp2_with (go_at_call 8; refine (octo_any _ _).mono ?_; rintro e w' ⟨rfl, rfl⟩)
      go_ret
      exact ⟨rfl, Grown.refl _⟩

set_option maxHeartbeats 400000 in
theorem fair_any (r k : Int) (w : World) :
    Calls Try.prog 4 #[.int .i64 r, .int .i64 k] w fun e w' => e = .returned (.bool true) ∧ Grown w w' := by
  by_cases h0 : k < 0
  · go_enter Try.func4, Try.ntmps4
    go_wp2
    go_ret
    exact ⟨rfl, Grown.refl _⟩
  · by_cases h1 : 65536 < k
    · go_enter Try.func4, Try.ntmps4
      go_wp2
      go_ret
      exact ⟨rfl, Grown.refl _⟩
    · obtain ⟨n, rfl⟩ : ∃ n : Nat, k = n := ⟨k.toNat, by omega⟩
      exact fair_in r n (by omega) w

end Go.Proofs.Qxb6609130a
