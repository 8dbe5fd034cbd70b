import Derived.Test.Qxb6609130aShape
namespace Go.Proofs.Qxb6609130a
open Go.RowKit

set_option maxHeartbeats 1600000 in
theorem swap_plain (f : Int) (w : World) :
    Calls Try.prog 6 #[.bool false, .int .i64 f] w fun e w' => e = .returned (.bool true) ∧ Below w.heap.size w w' := by
  go_enter Try.func6, Try.ntmps6
  go_wp2_with fail
  refine (zz_plain true f w).mono ?_
  rintro e w1 ⟨v1, v2, rfl, hR1, hb1⟩
  go_wp2_with fail
  refine (zz_plain false f w1).mono ?_
  rintro e w2 ⟨u1, u2, rfl, hR2, hb2⟩
  have hb : Below w.heap.size w w2 := hb1.trans (hb2.mono hb1.size)
  obtain ⟨g1, c1, g2, c2, rfl, rfl, -, -, -, -, r1, r2⟩ := hR1.kept hb2
  obtain ⟨g3, c3, g4, c4, rfl, rfl, -, -, -, -, r3, r4⟩ := hR2
  clear hR1 hb1 hb2
  go_wp2_with fail
  refine (shape_plain f w2).mono ?_
  rintro e w3 ⟨rfl, rfl⟩
  go_wp2
  go_loopw [17] (fun i wr => ∃ j : Nat, j ≤ 128 ∧ i = .int .i64 j ∧ (∀ i, i < 128 → wr.cell? ⟨g1, i, none⟩ = some (.int .i64 (tagAt true 2 i))) ∧ (∀ i, i < 128 → wr.cell? ⟨g2, i, none⟩ = some (.int .i64 (turnAt 2 i))) ∧ (∀ i, i < 128 → wr.cell? ⟨g3, i, none⟩ = some (.int .i64 (tagAt false 2 i))) ∧ (∀ i, i < 128 → wr.cell? ⟨g4, i, none⟩ = some (.int .i64 (turnAt 2 i))) ∧ Below w.heap.size w wr) (fun i _ => 128 - (intOf i).toNat)
  case atStart => exact ⟨0, Nat.zero_le _, rfl, r1, r2, r3, r4, hb⟩
  case round =>
    clear hb r1 r2 r3 r4
    obtain ⟨j, hj, rfl, r1, r2, r3, r4, hb⟩ := hrel
    by_cases hlt : j < 128
    · have hlt' : (j : Int) < 128 := by omega
      have x2 : wr.cell? ⟨g2, j, none⟩ = some (.int .i64 ((j : Int) / 2)) := r2 j hlt
      have x4 : wr.cell? ⟨g4, j, none⟩ = some (.int .i64 ((j : Int) / 2)) := r4 j hlt
      have R1 : Hid (∀ i, i < 128 → wr.cell? ⟨g1, i, none⟩ = some (.int .i64 (tagAt true 2 i))) := r1
      have R2 : Hid (∀ i, i < 128 → wr.cell? ⟨g2, i, none⟩ = some (.int .i64 (turnAt 2 i))) := r2
      have R3 : Hid (∀ i, i < 128 → wr.cell? ⟨g3, i, none⟩ = some (.int .i64 (tagAt false 2 i))) := r3
      have R4 : Hid (∀ i, i < 128 → wr.cell? ⟨g4, i, none⟩ = some (.int .i64 (turnAt 2 i))) := r4
      clear r1 r2 r3 r4
      rcases (show j % 2 = 0 ∨ j % 2 = 1 from by omega) with hr | hr
      · have x1 : wr.cell? ⟨g1, j, none⟩ = some (.int .i64 0) := by rw [R1.out j hlt]; unfold tagAt; rw [if_pos hr]; rfl
        have x3 : wr.cell? ⟨g3, j, none⟩ = some (.int .i64 1) := by rw [R3.out j hlt]; unfold tagAt; rw [if_pos hr]; rfl
        clear hr
        go_wp2
        go_quiet (fail)
        go_wp2
        go_roundw
        case rel => exact ⟨j + 1, by omega, by go_num, R1.out, R2.out, R3.out, R4.out, drawn_below hb _⟩
        case measure => simp [intOf]; omega
      · have x1 : wr.cell? ⟨g1, j, none⟩ = some (.int .i64 1) := by rw [R1.out j hlt]; unfold tagAt; rw [if_neg (by omega), if_pos hr]; rfl
        have x3 : wr.cell? ⟨g3, j, none⟩ = some (.int .i64 0) := by rw [R3.out j hlt]; unfold tagAt; rw [if_neg (by omega), if_pos hr]; rfl
        clear hr
        go_wp2
        go_quiet (fail)
        go_wp2
        go_roundw
        case rel => exact ⟨j + 1, by omega, by go_num, R1.out, R2.out, R3.out, R4.out, drawn_below hb _⟩
        case measure => simp [intOf]; omega
    · obtain rfl : j = 128 := by omega
      clear r1 r2 r3 r4
      go_wp2
      go_ret
      exact ⟨rfl, hb⟩

set_option maxHeartbeats 1600000 in
theorem swap_miss (f : Int) (hf : f < 0 ∨ 64 ≤ f) (w : World) :
    Calls Try.prog 6 #[.bool true, .int .i64 f] w fun e w' => e = .returned (.bool true) ∧ Below w.heap.size w w' := by
  have HF : Hid (f < 0 ∨ 64 ≤ f) := hf
  clear hf
  go_enter Try.func6, Try.ntmps6
  go_wp2_with fail
  refine (zz_after true f w).mono ?_
  rintro e w1 ⟨v1, v2, hb1, ⟨k, hk, hfk, -, -⟩ | ⟨-, rfl, hR1⟩⟩
  · have := HF.out; omega
  go_wp2_with fail
  refine (zz_after false f w1).mono ?_
  rintro e w2 ⟨u1, u2, hb2, ⟨k, hk, hfk, -, -⟩ | ⟨-, rfl, hR2⟩⟩
  · have := HF.out; omega
  have hb : Below w.heap.size w w2 := hb1.trans (hb2.mono hb1.size)
  obtain ⟨g1, c1, g2, c2, rfl, rfl, -, -, -, -, r1, r2⟩ := hR1.kept hb2
  obtain ⟨g3, c3, g4, c4, rfl, rfl, -, -, -, -, r3, r4⟩ := hR2
  clear hR1 hb1 hb2
  go_wp2_with fail
  refine (shape_miss f HF.out w2).mono ?_
  rintro e w3 ⟨rfl, rfl⟩
  go_wp2
  go_loopw [17] (fun i wr => ∃ j : Nat, j ≤ 192 ∧ i = .int .i64 j ∧ (∀ i, i < 192 → wr.cell? ⟨g1, i, none⟩ = some (.int .i64 (tagAt true 3 i))) ∧ (∀ i, i < 192 → wr.cell? ⟨g2, i, none⟩ = some (.int .i64 (turnAt 3 i))) ∧ (∀ i, i < 192 → wr.cell? ⟨g3, i, none⟩ = some (.int .i64 (tagAt false 3 i))) ∧ (∀ i, i < 192 → wr.cell? ⟨g4, i, none⟩ = some (.int .i64 (turnAt 3 i))) ∧ Below w.heap.size w wr) (fun i _ => 192 - (intOf i).toNat)
  case atStart => exact ⟨0, Nat.zero_le _, rfl, r1, r2, r3, r4, hb⟩
  case round =>
    clear hb r1 r2 r3 r4
    obtain ⟨j, hj, rfl, r1, r2, r3, r4, hb⟩ := hrel
    by_cases hlt : j < 192
    · have hlt' : (j : Int) < 192 := by omega
      have x2 : wr.cell? ⟨g2, j, none⟩ = some (.int .i64 ((j : Int) / 3)) := r2 j hlt
      have x4 : wr.cell? ⟨g4, j, none⟩ = some (.int .i64 ((j : Int) / 3)) := r4 j hlt
      have R1 : Hid (∀ i, i < 192 → wr.cell? ⟨g1, i, none⟩ = some (.int .i64 (tagAt true 3 i))) := r1
      have R2 : Hid (∀ i, i < 192 → wr.cell? ⟨g2, i, none⟩ = some (.int .i64 (turnAt 3 i))) := r2
      have R3 : Hid (∀ i, i < 192 → wr.cell? ⟨g3, i, none⟩ = some (.int .i64 (tagAt false 3 i))) := r3
      have R4 : Hid (∀ i, i < 192 → wr.cell? ⟨g4, i, none⟩ = some (.int .i64 (turnAt 3 i))) := r4
      clear r1 r2 r3 r4
      rcases (show j % 3 = 0 ∨ j % 3 = 1 ∨ j % 3 = 2 from by omega) with hr | hr | hr
      · have x1 : wr.cell? ⟨g1, j, none⟩ = some (.int .i64 0) := by rw [R1.out j hlt]; unfold tagAt; rw [if_pos hr]; rfl
        have x3 : wr.cell? ⟨g3, j, none⟩ = some (.int .i64 1) := by rw [R3.out j hlt]; unfold tagAt; rw [if_pos hr]; rfl
        clear hr
        go_wp2
        go_quiet (fail)
        go_wp2
        go_roundw
        case rel => exact ⟨j + 1, by omega, by go_num, R1.out, R2.out, R3.out, R4.out, drawn_below hb _⟩
        case measure => simp [intOf]; omega
      · have x1 : wr.cell? ⟨g1, j, none⟩ = some (.int .i64 1) := by rw [R1.out j hlt]; unfold tagAt; rw [if_neg (by omega), if_pos hr]; rfl
        have x3 : wr.cell? ⟨g3, j, none⟩ = some (.int .i64 0) := by rw [R3.out j hlt]; unfold tagAt; rw [if_neg (by omega), if_pos hr]; rfl
        clear hr
        go_wp2
        go_quiet (fail)
        go_wp2
        go_roundw
        case rel => exact ⟨j + 1, by omega, by go_num, R1.out, R2.out, R3.out, R4.out, drawn_below hb _⟩
        case measure => simp [intOf]; omega
      · have x1 : wr.cell? ⟨g1, j, none⟩ = some (.int .i64 2) := by rw [R1.out j hlt]; unfold tagAt; rw [if_neg (by omega), if_neg (by omega)]
        have x3 : wr.cell? ⟨g3, j, none⟩ = some (.int .i64 2) := by rw [R3.out j hlt]; unfold tagAt; rw [if_neg (by omega), if_neg (by omega)]
        clear hr
        go_wp2
        go_quiet (fail)
        go_wp2
        go_roundw
        case rel => exact ⟨j + 1, by omega, by go_num, R1.out, R2.out, R3.out, R4.out, drawn_below hb _⟩
        case measure => simp [intOf]; omega
    · obtain rfl : j = 192 := by omega
      clear r1 r2 r3 r4
      go_wp2
      go_ret
      exact ⟨rfl, hb⟩

set_option maxHeartbeats 1600000 in
theorem swap_hit (k : Nat) (hk : k < 64) (w : World) :
    Calls Try.prog 6 #[.bool true, .int .i64 k] w fun e w' => e = .returned (.bool true) ∧ Below w.heap.size w w' := by
  have hk' : (k : Int) < 64 := by omega
  go_enter Try.func6, Try.ntmps6
  go_wp2_with fail
  refine (zz_after true k w).mono ?_
  rintro e w1 ⟨v1, v2, hb1, ⟨k1, -, hkk, rfl, hR1⟩ | ⟨hfk, -, -⟩⟩
  rotate_left
  · omega
  obtain rfl : k = k1 := by omega
  clear hkk
  rw [Nat.mul_comm] at hR1
  go_wp2_with fail
  refine (zz_after false k w1).mono ?_
  rintro e w2 ⟨u1, u2, hb2, ⟨k2, -, hkk, rfl, hR2⟩ | ⟨hfk, -, -⟩⟩
  rotate_left
  · omega
  obtain rfl : k = k2 := by omega
  clear hkk
  rw [Nat.mul_comm] at hR2
  have hb : Below w.heap.size w w2 := hb1.trans (hb2.mono hb1.size)
  obtain ⟨g1, c1, g2, c2, rfl, rfl, -, -, -, -, r1, r2⟩ := hR1.kept hb2
  obtain ⟨g3, c3, g4, c4, rfl, rfl, -, -, -, -, r3, r4⟩ := hR2
  clear hR1 hb1 hb2
  go_wp2_with fail
  refine (shape_hit k hk w2).mono ?_
  rintro e w3 ⟨rfl, rfl⟩
  go_wp2
  go_loopw [17] (fun i wr => ∃ j : Nat, j ≤ (3 * (k + 1)) ∧ i = .int .i64 j ∧ (∀ i, i < (3 * (k + 1)) → wr.cell? ⟨g1, i, none⟩ = some (.int .i64 (tagAt true 3 i))) ∧ (∀ i, i < (3 * (k + 1)) → wr.cell? ⟨g2, i, none⟩ = some (.int .i64 (turnAt 3 i))) ∧ (∀ i, i < (3 * (k + 1)) → wr.cell? ⟨g3, i, none⟩ = some (.int .i64 (tagAt false 3 i))) ∧ (∀ i, i < (3 * (k + 1)) → wr.cell? ⟨g4, i, none⟩ = some (.int .i64 (turnAt 3 i))) ∧ Below w.heap.size w wr) (fun i _ => (3 * (k + 1)) - (intOf i).toNat)
  case atStart => exact ⟨0, Nat.zero_le _, rfl, r1, r2, r3, r4, hb⟩
  case round =>
    clear hb r1 r2 r3 r4
    obtain ⟨j, hj, rfl, r1, r2, r3, r4, hb⟩ := hrel
    by_cases hlt : j < (3 * (k + 1))
    · have hlt' : (j : Int) < (3 * ((k : Int) + 1)) := by omega
      have x2 : wr.cell? ⟨g2, j, none⟩ = some (.int .i64 ((j : Int) / 3)) := r2 j hlt
      have x4 : wr.cell? ⟨g4, j, none⟩ = some (.int .i64 ((j : Int) / 3)) := r4 j hlt
      have R1 : Hid (∀ i, i < (3 * (k + 1)) → wr.cell? ⟨g1, i, none⟩ = some (.int .i64 (tagAt true 3 i))) := r1
      have R2 : Hid (∀ i, i < (3 * (k + 1)) → wr.cell? ⟨g2, i, none⟩ = some (.int .i64 (turnAt 3 i))) := r2
      have R3 : Hid (∀ i, i < (3 * (k + 1)) → wr.cell? ⟨g3, i, none⟩ = some (.int .i64 (tagAt false 3 i))) := r3
      have R4 : Hid (∀ i, i < (3 * (k + 1)) → wr.cell? ⟨g4, i, none⟩ = some (.int .i64 (turnAt 3 i))) := r4
      clear r1 r2 r3 r4
      rcases (show j % 3 = 0 ∨ j % 3 = 1 ∨ j % 3 = 2 from by omega) with hr | hr | hr
      · have x1 : wr.cell? ⟨g1, j, none⟩ = some (.int .i64 0) := by rw [R1.out j hlt]; unfold tagAt; rw [if_pos hr]; rfl
        have x3 : wr.cell? ⟨g3, j, none⟩ = some (.int .i64 1) := by rw [R3.out j hlt]; unfold tagAt; rw [if_pos hr]; rfl
        clear hr
        go_wp2
        go_quiet (fail)
        go_wp2
        go_roundw
        case rel => exact ⟨j + 1, by omega, by go_num, R1.out, R2.out, R3.out, R4.out, drawn_below hb _⟩
        case measure => simp [intOf]; omega
      · have x1 : wr.cell? ⟨g1, j, none⟩ = some (.int .i64 1) := by rw [R1.out j hlt]; unfold tagAt; rw [if_neg (by omega), if_pos hr]; rfl
        have x3 : wr.cell? ⟨g3, j, none⟩ = some (.int .i64 0) := by rw [R3.out j hlt]; unfold tagAt; rw [if_neg (by omega), if_pos hr]; rfl
        clear hr
        go_wp2
        go_quiet (fail)
        go_wp2
        go_roundw
        case rel => exact ⟨j + 1, by omega, by go_num, R1.out, R2.out, R3.out, R4.out, drawn_below hb _⟩
        case measure => simp [intOf]; omega
      · have x1 : wr.cell? ⟨g1, j, none⟩ = some (.int .i64 2) := by rw [R1.out j hlt]; unfold tagAt; rw [if_neg (by omega), if_neg (by omega)]
        have x3 : wr.cell? ⟨g3, j, none⟩ = some (.int .i64 2) := by rw [R3.out j hlt]; unfold tagAt; rw [if_neg (by omega), if_neg (by omega)]
        clear hr
        go_wp2
        go_quiet (fail)
        go_wp2
        go_roundw
        case rel => exact ⟨j + 1, by omega, by go_num, R1.out, R2.out, R3.out, R4.out, drawn_below hb _⟩
        case measure => simp [intOf]; omega
    · obtain rfl : j = (3 * (k + 1)) := by omega
      clear r1 r2 r3 r4
      go_wp2
      go_ret
      exact ⟨rfl, hb⟩

theorem swap_any (wa : Bool) (f : Int) (w : World) :
    Calls Try.prog 6 #[.bool wa, .int .i64 f] w fun e w' => e = .returned (.bool true) ∧ Below w.heap.size w w' := by
  cases wa
  · exact swap_plain f w
  · by_cases h : 0 ≤ f ∧ f < 64
    · obtain ⟨k, rfl⟩ : ∃ k : Nat, f = k := ⟨f.toNat, by omega⟩
      exact swap_hit k (by omega) w
    · exact swap_miss f (by omega) w

end Go.Proofs.Qxb6609130a
