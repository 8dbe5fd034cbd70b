import Derived.Test.Qxb6609130aShape
namespace Go.Proofs.Qxb6609130a
open Go.RowKit

set_option maxHeartbeats 1600000 in
theorem order_plain_true (f : Int) (w : World) :
    Calls Try.prog 5 #[.bool true, .bool false, .int .i64 f] w fun e w' => e = .returned (.bool true) ∧ Below w.heap.size w w' := by
  go_enter Try.func5, Try.ntmps5
  go_wp2_with fail
  refine (zz_plain true f w).mono ?_
  rintro e w1 ⟨v1, v2, rfl, ⟨g1, c1, g2, c2, rfl, rfl, -, -, -, -, r1, r2⟩, hb⟩
  go_wp2_with fail
  refine (shape_plain f w1).mono ?_
  rintro e w2 ⟨rfl, rfl⟩
  go_wp2
  go_loopw [16] (fun i wr => ∃ j : Nat, j ≤ 128 ∧ i = .int .i64 j ∧ (∀ i, i < 128 → wr.cell? ⟨g1, i, none⟩ = some (.int .i64 (tagAt true 2 i))) ∧ (∀ i, i < 128 → wr.cell? ⟨g2, i, none⟩ = some (.int .i64 (turnAt 2 i))) ∧ Below w.heap.size w wr) (fun i _ => 128 - (intOf i).toNat)
  case atStart => exact ⟨0, Nat.zero_le _, rfl, r1, r2, hb⟩
  case round =>
    clear hb r1 r2
    obtain ⟨j, hj, rfl, r1, r2, hb⟩ := hrel
    by_cases hlt : j < 128
    · have hlt' : (j : Int) < 128 := by omega
      have x2 : wr.cell? ⟨g2, j, none⟩ = some (.int .i64 ((j : Int) / 2)) := r2 j hlt
      have R1 : Hid (∀ i, i < 128 → wr.cell? ⟨g1, i, none⟩ = some (.int .i64 (tagAt true 2 i))) := r1
      have R2 : Hid (∀ i, i < 128 → wr.cell? ⟨g2, i, none⟩ = some (.int .i64 (turnAt 2 i))) := r2
      clear r1 r2
      rcases (show j % 2 = 0 ∨ j % 2 = 1 from by omega) with hr | hr
      · have hr' : (j : Int) % 2 = 0 := by omega
        have x1 : wr.cell? ⟨g1, j, none⟩ = some (.int .i64 0) := by rw [R1.out j hlt]; unfold tagAt; rw [if_pos hr]; rfl
        clear hr
        go_wp2
        go_quiet (fail)
        go_wp2
        go_roundw
        case rel => exact ⟨j + 1, by omega, by go_num, R1.out, R2.out, drawn_below hb _⟩
        case measure => simp [intOf]; omega
      · have hr' : (j : Int) % 2 = 1 := by omega
        have x1 : wr.cell? ⟨g1, j, none⟩ = some (.int .i64 1) := by rw [R1.out j hlt]; unfold tagAt; rw [if_neg (by omega), if_pos hr]; rfl
        clear hr
        go_wp2
        go_quiet (fail)
        go_wp2
        go_roundw
        case rel => exact ⟨j + 1, by omega, by go_num, R1.out, R2.out, drawn_below hb _⟩
        case measure => simp [intOf]; omega
    · obtain rfl : j = 128 := by omega
      clear r1 r2
      go_wp2
      go_ret
      exact ⟨rfl, hb⟩

set_option maxHeartbeats 1600000 in
theorem order_plain_false (f : Int) (w : World) :
    Calls Try.prog 5 #[.bool false, .bool false, .int .i64 f] w fun e w' => e = .returned (.bool true) ∧ Below w.heap.size w w' := by
  go_enter Try.func5, Try.ntmps5
  go_wp2_with fail
  refine (zz_plain false f w).mono ?_
  rintro e w1 ⟨v1, v2, rfl, ⟨g1, c1, g2, c2, rfl, rfl, -, -, -, -, r1, r2⟩, hb⟩
  go_wp2_with fail
  refine (shape_plain f w1).mono ?_
  rintro e w2 ⟨rfl, rfl⟩
  go_wp2
  go_loopw [16] (fun i wr => ∃ j : Nat, j ≤ 128 ∧ i = .int .i64 j ∧ (∀ i, i < 128 → wr.cell? ⟨g1, i, none⟩ = some (.int .i64 (tagAt false 2 i))) ∧ (∀ i, i < 128 → wr.cell? ⟨g2, i, none⟩ = some (.int .i64 (turnAt 2 i))) ∧ Below w.heap.size w wr) (fun i _ => 128 - (intOf i).toNat)
  case atStart => exact ⟨0, Nat.zero_le _, rfl, r1, r2, hb⟩
  case round =>
    clear hb r1 r2
    obtain ⟨j, hj, rfl, r1, r2, hb⟩ := hrel
    by_cases hlt : j < 128
    · have hlt' : (j : Int) < 128 := by omega
      have x2 : wr.cell? ⟨g2, j, none⟩ = some (.int .i64 ((j : Int) / 2)) := r2 j hlt
      have R1 : Hid (∀ i, i < 128 → wr.cell? ⟨g1, i, none⟩ = some (.int .i64 (tagAt false 2 i))) := r1
      have R2 : Hid (∀ i, i < 128 → wr.cell? ⟨g2, i, none⟩ = some (.int .i64 (turnAt 2 i))) := r2
      clear r1 r2
      rcases (show j % 2 = 0 ∨ j % 2 = 1 from by omega) with hr | hr
      · have hr' : (j : Int) % 2 = 0 := by omega
        have x1 : wr.cell? ⟨g1, j, none⟩ = some (.int .i64 1) := by rw [R1.out j hlt]; unfold tagAt; rw [if_pos hr]; rfl
        clear hr
        go_wp2
        go_quiet (fail)
        go_wp2
        go_roundw
        case rel => exact ⟨j + 1, by omega, by go_num, R1.out, R2.out, drawn_below hb _⟩
        case measure => simp [intOf]; omega
      · have hr' : (j : Int) % 2 = 1 := by omega
        have x1 : wr.cell? ⟨g1, j, none⟩ = some (.int .i64 0) := by rw [R1.out j hlt]; unfold tagAt; rw [if_neg (by omega), if_pos hr]; rfl
        clear hr
        go_wp2
        go_quiet (fail)
        go_wp2
        go_roundw
        case rel => exact ⟨j + 1, by omega, by go_num, R1.out, R2.out, drawn_below hb _⟩
        case measure => simp [intOf]; omega
    · obtain rfl : j = 128 := by omega
      clear r1 r2
      go_wp2
      go_ret
      exact ⟨rfl, hb⟩

set_option maxHeartbeats 1600000 in
theorem order_miss_true (f : Int) (hf : f < 0 ∨ 64 ≤ f) (w : World) :
    Calls Try.prog 5 #[.bool true, .bool true, .int .i64 f] w fun e w' => e = .returned (.bool true) ∧ Below w.heap.size w w' := by
  have HF : Hid (f < 0 ∨ 64 ≤ f) := hf
  clear hf
  go_enter Try.func5, Try.ntmps5
  go_wp2_with fail
  refine (zz_after true f w).mono ?_
  rintro e w1 ⟨v1, v2, hb, ⟨k, hk, hfk, -, -⟩ | ⟨-, rfl, ⟨g1, c1, g2, c2, rfl, rfl, -, -, -, -, r1, r2⟩⟩⟩
  · have := HF.out; omega
  go_wp2_with fail
  refine (shape_miss f HF.out w1).mono ?_
  rintro e w2 ⟨rfl, rfl⟩
  go_wp2
  go_loopw [16] (fun i wr => ∃ j : Nat, j ≤ 192 ∧ i = .int .i64 j ∧ (∀ i, i < 192 → wr.cell? ⟨g1, i, none⟩ = some (.int .i64 (tagAt true 3 i))) ∧ (∀ i, i < 192 → wr.cell? ⟨g2, i, none⟩ = some (.int .i64 (turnAt 3 i))) ∧ Below w.heap.size w wr) (fun i _ => 192 - (intOf i).toNat)
  case atStart => exact ⟨0, Nat.zero_le _, rfl, r1, r2, hb⟩
  case round =>
    clear hb r1 r2
    obtain ⟨j, hj, rfl, r1, r2, hb⟩ := hrel
    by_cases hlt : j < 192
    · have hlt' : (j : Int) < 192 := by omega
      have x2 : wr.cell? ⟨g2, j, none⟩ = some (.int .i64 ((j : Int) / 3)) := r2 j hlt
      have R1 : Hid (∀ i, i < 192 → wr.cell? ⟨g1, i, none⟩ = some (.int .i64 (tagAt true 3 i))) := r1
      have R2 : Hid (∀ i, i < 192 → wr.cell? ⟨g2, i, none⟩ = some (.int .i64 (turnAt 3 i))) := r2
      clear r1 r2
      rcases (show j % 3 = 0 ∨ j % 3 = 1 ∨ j % 3 = 2 from by omega) with hr | hr | hr
      · have hr' : (j : Int) % 3 = 0 := by omega
        have x1 : wr.cell? ⟨g1, j, none⟩ = some (.int .i64 0) := by rw [R1.out j hlt]; unfold tagAt; rw [if_pos hr]; rfl
        clear hr
        go_wp2
        go_quiet (fail)
        go_wp2
        go_roundw
        case rel => exact ⟨j + 1, by omega, by go_num, R1.out, R2.out, drawn_below hb _⟩
        case measure => simp [intOf]; omega
      · have hr' : (j : Int) % 3 = 1 := by omega
        have x1 : wr.cell? ⟨g1, j, none⟩ = some (.int .i64 1) := by rw [R1.out j hlt]; unfold tagAt; rw [if_neg (by omega), if_pos hr]; rfl
        clear hr
        go_wp2
        go_quiet (fail)
        go_wp2
        go_roundw
        case rel => exact ⟨j + 1, by omega, by go_num, R1.out, R2.out, drawn_below hb _⟩
        case measure => simp [intOf]; omega
      · have hr' : (j : Int) % 3 = 2 := by omega
        have x1 : wr.cell? ⟨g1, j, none⟩ = some (.int .i64 2) := by rw [R1.out j hlt]; unfold tagAt; rw [if_neg (by omega), if_neg (by omega)]
        clear hr
        go_wp2
        go_quiet (fail)
        go_wp2
        go_roundw
        case rel => exact ⟨j + 1, by omega, by go_num, R1.out, R2.out, drawn_below hb _⟩
        case measure => simp [intOf]; omega
    · obtain rfl : j = 192 := by omega
      clear r1 r2
      go_wp2
      go_ret
      exact ⟨rfl, hb⟩

set_option maxHeartbeats 1600000 in
theorem order_miss_false (f : Int) (hf : f < 0 ∨ 64 ≤ f) (w : World) :
    Calls Try.prog 5 #[.bool false, .bool true, .int .i64 f] w fun e w' => e = .returned (.bool true) ∧ Below w.heap.size w w' := by
  have HF : Hid (f < 0 ∨ 64 ≤ f) := hf
  clear hf
  go_enter Try.func5, Try.ntmps5
  go_wp2_with fail
  refine (zz_after false f w).mono ?_
  rintro e w1 ⟨v1, v2, hb, ⟨k, hk, hfk, -, -⟩ | ⟨-, rfl, ⟨g1, c1, g2, c2, rfl, rfl, -, -, -, -, r1, r2⟩⟩⟩
  · have := HF.out; omega
  go_wp2_with fail
  refine (shape_miss f HF.out w1).mono ?_
  rintro e w2 ⟨rfl, rfl⟩
  go_wp2
  go_loopw [16] (fun i wr => ∃ j : Nat, j ≤ 192 ∧ i = .int .i64 j ∧ (∀ i, i < 192 → wr.cell? ⟨g1, i, none⟩ = some (.int .i64 (tagAt false 3 i))) ∧ (∀ i, i < 192 → wr.cell? ⟨g2, i, none⟩ = some (.int .i64 (turnAt 3 i))) ∧ Below w.heap.size w wr) (fun i _ => 192 - (intOf i).toNat)
  case atStart => exact ⟨0, Nat.zero_le _, rfl, r1, r2, hb⟩
  case round =>
    clear hb r1 r2
    obtain ⟨j, hj, rfl, r1, r2, hb⟩ := hrel
    by_cases hlt : j < 192
    · have hlt' : (j : Int) < 192 := by omega
      have x2 : wr.cell? ⟨g2, j, none⟩ = some (.int .i64 ((j : Int) / 3)) := r2 j hlt
      have R1 : Hid (∀ i, i < 192 → wr.cell? ⟨g1, i, none⟩ = some (.int .i64 (tagAt false 3 i))) := r1
      have R2 : Hid (∀ i, i < 192 → wr.cell? ⟨g2, i, none⟩ = some (.int .i64 (turnAt 3 i))) := r2
      clear r1 r2
      rcases (show j % 3 = 0 ∨ j % 3 = 1 ∨ j % 3 = 2 from by omega) with hr | hr | hr
      · have hr' : (j : Int) % 3 = 0 := by omega
        have x1 : wr.cell? ⟨g1, j, none⟩ = some (.int .i64 1) := by rw [R1.out j hlt]; unfold tagAt; rw [if_pos hr]; rfl
        clear hr
        go_wp2
        go_quiet (fail)
        go_wp2
        go_roundw
        case rel => exact ⟨j + 1, by omega, by go_num, R1.out, R2.out, drawn_below hb _⟩
        case measure => simp [intOf]; omega
      · have hr' : (j : Int) % 3 = 1 := by omega
        have x1 : wr.cell? ⟨g1, j, none⟩ = some (.int .i64 0) := by rw [R1.out j hlt]; unfold tagAt; rw [if_neg (by omega), if_pos hr]; rfl
        clear hr
        go_wp2
        go_quiet (fail)
        go_wp2
        go_roundw
        case rel => exact ⟨j + 1, by omega, by go_num, R1.out, R2.out, drawn_below hb _⟩
        case measure => simp [intOf]; omega
      · have hr' : (j : Int) % 3 = 2 := by omega
        have x1 : wr.cell? ⟨g1, j, none⟩ = some (.int .i64 2) := by rw [R1.out j hlt]; unfold tagAt; rw [if_neg (by omega), if_neg (by omega)]
        clear hr
        go_wp2
        go_quiet (fail)
        go_wp2
        go_roundw
        case rel => exact ⟨j + 1, by omega, by go_num, R1.out, R2.out, drawn_below hb _⟩
        case measure => simp [intOf]; omega
    · obtain rfl : j = 192 := by omega
      clear r1 r2
      go_wp2
      go_ret
      exact ⟨rfl, hb⟩

set_option maxHeartbeats 1600000 in
theorem order_hit_true (k : Nat) (hk : k < 64) (w : World) :
    Calls Try.prog 5 #[.bool true, .bool true, .int .i64 k] w fun e w' => e = .returned (.bool true) ∧ Below w.heap.size w w' := by
  have hk' : (k : Int) < 64 := by omega
  go_enter Try.func5, Try.ntmps5
  go_wp2_with fail
  refine (zz_after true k w).mono ?_
  rintro e w1 ⟨v1, v2, hb, ⟨k', -, hkk, rfl, ⟨g1, c1, g2, c2, rfl, rfl, -, -, -, -, r1, r2⟩⟩ | ⟨hfk, -, -⟩⟩
  rotate_left
  · omega
  obtain rfl : k = k' := by omega
  clear hkk
  go_wp2_with fail
  refine (shape_hit k hk w1).mono ?_
  rintro e w2 ⟨rfl, rfl⟩
  go_wp2
  go_loopw [16] (fun i wr => ∃ j : Nat, j ≤ ((k + 1) * 3) ∧ i = .int .i64 j ∧ (∀ i, i < ((k + 1) * 3) → wr.cell? ⟨g1, i, none⟩ = some (.int .i64 (tagAt true 3 i))) ∧ (∀ i, i < ((k + 1) * 3) → wr.cell? ⟨g2, i, none⟩ = some (.int .i64 (turnAt 3 i))) ∧ Below w.heap.size w wr) (fun i _ => ((k + 1) * 3) - (intOf i).toNat)
  case atStart => exact ⟨0, Nat.zero_le _, rfl, r1, r2, hb⟩
  case round =>
    clear hb r1 r2
    obtain ⟨j, hj, rfl, r1, r2, hb⟩ := hrel
    by_cases hlt : j < ((k + 1) * 3)
    · have hlt' : (j : Int) < (((k : Int) + 1) * 3) := by omega
      have x2 : wr.cell? ⟨g2, j, none⟩ = some (.int .i64 ((j : Int) / 3)) := r2 j hlt
      have R1 : Hid (∀ i, i < ((k + 1) * 3) → wr.cell? ⟨g1, i, none⟩ = some (.int .i64 (tagAt true 3 i))) := r1
      have R2 : Hid (∀ i, i < ((k + 1) * 3) → wr.cell? ⟨g2, i, none⟩ = some (.int .i64 (turnAt 3 i))) := r2
      clear r1 r2
      rcases (show j % 3 = 0 ∨ j % 3 = 1 ∨ j % 3 = 2 from by omega) with hr | hr | hr
      · have hr' : (j : Int) % 3 = 0 := by omega
        have x1 : wr.cell? ⟨g1, j, none⟩ = some (.int .i64 0) := by rw [R1.out j hlt]; unfold tagAt; rw [if_pos hr]; rfl
        clear hr
        go_wp2
        go_quiet (fail)
        go_wp2
        go_roundw
        case rel => exact ⟨j + 1, by omega, by go_num, R1.out, R2.out, drawn_below hb _⟩
        case measure => simp [intOf]; omega
      · have hr' : (j : Int) % 3 = 1 := by omega
        have x1 : wr.cell? ⟨g1, j, none⟩ = some (.int .i64 1) := by rw [R1.out j hlt]; unfold tagAt; rw [if_neg (by omega), if_pos hr]; rfl
        clear hr
        go_wp2
        go_quiet (fail)
        go_wp2
        go_roundw
        case rel => exact ⟨j + 1, by omega, by go_num, R1.out, R2.out, drawn_below hb _⟩
        case measure => simp [intOf]; omega
      · have hr' : (j : Int) % 3 = 2 := by omega
        have x1 : wr.cell? ⟨g1, j, none⟩ = some (.int .i64 2) := by rw [R1.out j hlt]; unfold tagAt; rw [if_neg (by omega), if_neg (by omega)]
        clear hr
        go_wp2
        go_quiet (fail)
        go_wp2
        go_roundw
        case rel => exact ⟨j + 1, by omega, by go_num, R1.out, R2.out, drawn_below hb _⟩
        case measure => simp [intOf]; omega
    · obtain rfl : j = ((k + 1) * 3) := by omega
      clear r1 r2
      go_wp2
      go_ret
      exact ⟨rfl, hb⟩

set_option maxHeartbeats 1600000 in
theorem order_hit_false (k : Nat) (hk : k < 64) (w : World) :
    Calls Try.prog 5 #[.bool false, .bool true, .int .i64 k] w fun e w' => e = .returned (.bool true) ∧ Below w.heap.size w w' := by
  have hk' : (k : Int) < 64 := by omega
  go_enter Try.func5, Try.ntmps5
  go_wp2_with fail
  refine (zz_after false k w).mono ?_
  rintro e w1 ⟨v1, v2, hb, ⟨k', -, hkk, rfl, ⟨g1, c1, g2, c2, rfl, rfl, -, -, -, -, r1, r2⟩⟩ | ⟨hfk, -, -⟩⟩
  rotate_left
  · omega
  obtain rfl : k = k' := by omega
  clear hkk
  go_wp2_with fail
  refine (shape_hit k hk w1).mono ?_
  rintro e w2 ⟨rfl, rfl⟩
  go_wp2
  go_loopw [16] (fun i wr => ∃ j : Nat, j ≤ ((k + 1) * 3) ∧ i = .int .i64 j ∧ (∀ i, i < ((k + 1) * 3) → wr.cell? ⟨g1, i, none⟩ = some (.int .i64 (tagAt false 3 i))) ∧ (∀ i, i < ((k + 1) * 3) → wr.cell? ⟨g2, i, none⟩ = some (.int .i64 (turnAt 3 i))) ∧ Below w.heap.size w wr) (fun i _ => ((k + 1) * 3) - (intOf i).toNat)
  case atStart => exact ⟨0, Nat.zero_le _, rfl, r1, r2, hb⟩
  case round =>
    clear hb r1 r2
    obtain ⟨j, hj, rfl, r1, r2, hb⟩ := hrel
    by_cases hlt : j < ((k + 1) * 3)
    · have hlt' : (j : Int) < (((k : Int) + 1) * 3) := by omega
      have x2 : wr.cell? ⟨g2, j, none⟩ = some (.int .i64 ((j : Int) / 3)) := r2 j hlt
      have R1 : Hid (∀ i, i < ((k + 1) * 3) → wr.cell? ⟨g1, i, none⟩ = some (.int .i64 (tagAt false 3 i))) := r1
      have R2 : Hid (∀ i, i < ((k + 1) * 3) → wr.cell? ⟨g2, i, none⟩ = some (.int .i64 (turnAt 3 i))) := r2
      clear r1 r2
      rcases (show j % 3 = 0 ∨ j % 3 = 1 ∨ j % 3 = 2 from by omega) with hr | hr | hr
      · have hr' : (j : Int) % 3 = 0 := by omega
        have x1 : wr.cell? ⟨g1, j, none⟩ = some (.int .i64 1) := by rw [R1.out j hlt]; unfold tagAt; rw [if_pos hr]; rfl
        clear hr
        go_wp2
        go_quiet (fail)
        go_wp2
        go_roundw
        case rel => exact ⟨j + 1, by omega, by go_num, R1.out, R2.out, drawn_below hb _⟩
        case measure => simp [intOf]; omega
      · have hr' : (j : Int) % 3 = 1 := by omega
        have x1 : wr.cell? ⟨g1, j, none⟩ = some (.int .i64 0) := by rw [R1.out j hlt]; unfold tagAt; rw [if_neg (by omega), if_pos hr]; rfl
        clear hr
        go_wp2
        go_quiet (fail)
        go_wp2
        go_roundw
        case rel => exact ⟨j + 1, by omega, by go_num, R1.out, R2.out, drawn_below hb _⟩
        case measure => simp [intOf]; omega
      · have hr' : (j : Int) % 3 = 2 := by omega
        have x1 : wr.cell? ⟨g1, j, none⟩ = some (.int .i64 2) := by rw [R1.out j hlt]; unfold tagAt; rw [if_neg (by omega), if_neg (by omega)]
        clear hr
        go_wp2
        go_quiet (fail)
        go_wp2
        go_roundw
        case rel => exact ⟨j + 1, by omega, by go_num, R1.out, R2.out, drawn_below hb _⟩
        case measure => simp [intOf]; omega
    · obtain rfl : j = ((k + 1) * 3) := by omega
      clear r1 r2
      go_wp2
      go_ret
      exact ⟨rfl, hb⟩

theorem order_any (o wa : Bool) (f : Int) (w : World) :
    Calls Try.prog 5 #[.bool o, .bool wa, .int .i64 f] w fun e w' => e = .returned (.bool true) ∧ Below w.heap.size w w' := by
  cases wa
  · cases o
    · exact order_plain_false f w
    · exact order_plain_true f w
  · by_cases h : 0 ≤ f ∧ f < 64
    · obtain ⟨k, rfl⟩ : ∃ k : Nat, f = k := ⟨f.toNat, by omega⟩
      cases o
      · exact order_hit_false k (by omega) w
      · exact order_hit_true k (by omega) w
    · cases o
      · exact order_miss_false f (by omega) w
      · exact order_miss_true f (by omega) w

end Go.Proofs.Qxb6609130a
