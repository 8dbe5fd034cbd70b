import Derived.Test.Qxb6609130aLog
namespace Go.Proofs.Qxb6609130a
open Go.RowKit

theorem own_shape {w : World} {b : Nat} {v : Value} {n : Nat} {xs : List Value} (h : w.ownsRow b 3 1 v (n + 1) xs) : ∃ g cap, v = .slice (some ⟨g, 0, none⟩) (n + 1) cap := by
  rcases h.2 with ⟨_, e⟩ | ⟨g, cap, cur, e, _⟩
  · omega
  · exact ⟨g, cap, e⟩

theorem size_set (w : World) (a : Addr) (v : Value) : (w.setCell a v).heap.size = w.heap.size := by simp [World.setCell]

set_option maxHeartbeats 800000 in
theorem octo_two (B : Nat) (f : Int) (v1 v2 : Value) (xs1 xs2 : List Int) (p : Int) (w : World) (hT : Two B (B + 1) (B + 2) f v1 v2 xs1 xs2 w) (l1 : xs1.length ≤ 1000) (l2 : xs2.length ≤ 1000) :
    Calls Try.prog 13 #[.int .i64 p, .pointer (some ⟨B + 1, 0, none⟩), .pointer (some ⟨B + 2, 0, none⟩)] w fun e w' => e = .returned (.tuple #[]) ∧ (∃ v1' v2', Two B (B + 1) (B + 2) f v1' v2' (xs1 ++ [0]) (xs2 ++ [p]) w') ∧ Below B w w' := by
  obtain ⟨i0, hi, hz0, hz1, hz2⟩ := info_parts info3
  have hsz := lt_of_block hT.stop
  have c1 := cell_of_one hT.h1
  go_enter Try.func13, Try.ntmps13
  go_wp2_with (at_builtin; refine wpList_append_own_at _ rfl _ _ 24 rfl (B + 5) 3 i0 (.int .i64 0) 1 8 Try.underlying24 hi hz0 hz1 hz2 rfl (by decide) _ _ _ rfl (hT.o1.alloc _) ⟨w.heap.size, 0, none⟩ 1 1 [.int .i64 0] rfl rfl (cell_one_new _ _ _) (ints_oneCell .i64 [0]) (by unfold maxLen; omega) (by omega) (by simp; omega) ?_)
  intro v' w1 hown hgrow _ hat
  obtain ⟨g, cap, rfl⟩ := own_shape hown
  obtain ⟨hT1, hb1⟩ := hT.push (by omega) (by omega) (by omega) (by omega) hown hgrow hat
  have hB := hT.blocks hgrow
  have s1 := cell_of_one (hB (B + 1) _ (by omega) hT.h1)
  have s2 := free_of_one (hB (B + 1) _ (by omega) hT.h1)
  have s3 := cell_of_one (hB (B + 2) _ (by omega) hT.h2)
  have s4 := free_of_one (hB (B + 2) _ (by omega) hT.h2)
  have hsz1 := lt_of_block hT1.stop
  rw [size_set] at hsz1
  have hn2 := cell_one_new (w1.setCell ⟨B + 1, 0, none⟩ (.slice (some ⟨g, 0, none⟩) (xs1.length + 1) cap)) (.int .i64 p) 3
  rw [size_set] at hn2
  have HN : Hid (∀ j u, [Value.int .i64 p][j]? = some u → _ = some u) := hn2
  clear hown hgrow hat hB hn2
  go_wp2_with (at_builtin; refine wpList_append_own_at _ rfl _ _ 24 rfl (B + 5) 3 i0 (.int .i64 0) 1 8 Try.underlying24 hi hz0 hz1 hz2 rfl (by decide) _ _ _ rfl (hT1.o2.alloc _) ⟨w1.heap.size, 0, none⟩ 1 1 [.int .i64 p] rfl rfl HN.out (ints_oneCell .i64 [p]) (by unfold maxLen; omega) (by omega) (by simp; omega) ?_)
  intro v'' w2 hown2 hgrow2 _ hat2
  obtain ⟨g2, cap2, rfl⟩ := own_shape hown2
  obtain ⟨hT2, hb2⟩ := hT1.swap.push (by omega) (by omega) (by omega) (by omega) hown2 hgrow2 (by rw [size_set]; exact hat2)
  have hB2 := hT1.swap.blocks hgrow2
  have r1 := cell_of_one (hB2 (B + 2) _ (by omega) hT1.h2)
  have r2 := free_of_one (hB2 (B + 2) _ (by omega) hT1.h2)
  clear hown2 hgrow2 hat2 hB2 s1 s2 s3 s4
  go_wp2
  go_end0
  exact ⟨rfl, ⟨_, _, hT2.swap⟩, hb1.trans hb2⟩

set_option maxHeartbeats 800000 in
theorem ref_two (B : Nat) (f : Int) (v1 v2 : Value) (xs1 xs2 : List Int) (p : Int) (w : World) (hT : Two B (B + 1) (B + 2) f v1 v2 xs1 xs2 w) (l1 : xs1.length ≤ 1000) (l2 : xs2.length ≤ 1000) :
    Calls Try.prog 14 #[.int .i64 p, .pointer (some ⟨B + 1, 0, none⟩), .pointer (some ⟨B + 2, 0, none⟩)] w fun e w' => e = .returned (.tuple #[]) ∧ (∃ v1' v2', Two B (B + 1) (B + 2) f v1' v2' (xs1 ++ [1]) (xs2 ++ [p]) w') ∧ Below B w w' := by
  obtain ⟨i0, hi, hz0, hz1, hz2⟩ := info_parts info3
  have hsz := lt_of_block hT.stop
  have c1 := cell_of_one hT.h1
  go_enter Try.func14, Try.ntmps14
  go_wp2_with (at_builtin; refine wpList_append_own_at _ rfl _ _ 24 rfl (B + 5) 3 i0 (.int .i64 0) 1 8 Try.underlying24 hi hz0 hz1 hz2 rfl (by decide) _ _ _ rfl (hT.o1.alloc _) ⟨w.heap.size, 0, none⟩ 1 1 [.int .i64 1] rfl rfl (cell_one_new _ _ _) (ints_oneCell .i64 [1]) (by unfold maxLen; omega) (by omega) (by simp; omega) ?_)
  intro v' w1 hown hgrow _ hat
  obtain ⟨g, cap, rfl⟩ := own_shape hown
  obtain ⟨hT1, hb1⟩ := hT.push (by omega) (by omega) (by omega) (by omega) hown hgrow hat
  have hB := hT.blocks hgrow
  have s1 := cell_of_one (hB (B + 1) _ (by omega) hT.h1)
  have s2 := free_of_one (hB (B + 1) _ (by omega) hT.h1)
  have s3 := cell_of_one (hB (B + 2) _ (by omega) hT.h2)
  have s4 := free_of_one (hB (B + 2) _ (by omega) hT.h2)
  have hsz1 := lt_of_block hT1.stop
  rw [size_set] at hsz1
  have hn2 := cell_one_new (w1.setCell ⟨B + 1, 0, none⟩ (.slice (some ⟨g, 0, none⟩) (xs1.length + 1) cap)) (.int .i64 p) 3
  rw [size_set] at hn2
  have HN : Hid (∀ j u, [Value.int .i64 p][j]? = some u → _ = some u) := hn2
  clear hown hgrow hat hB hn2
  go_wp2_with (at_builtin; refine wpList_append_own_at _ rfl _ _ 24 rfl (B + 5) 3 i0 (.int .i64 0) 1 8 Try.underlying24 hi hz0 hz1 hz2 rfl (by decide) _ _ _ rfl (hT1.o2.alloc _) ⟨w1.heap.size, 0, none⟩ 1 1 [.int .i64 p] rfl rfl HN.out (ints_oneCell .i64 [p]) (by unfold maxLen; omega) (by omega) (by simp; omega) ?_)
  intro v'' w2 hown2 hgrow2 _ hat2
  obtain ⟨g2, cap2, rfl⟩ := own_shape hown2
  obtain ⟨hT2, hb2⟩ := hT1.swap.push (by omega) (by omega) (by omega) (by omega) hown2 hgrow2 (by rw [size_set]; exact hat2)
  have hB2 := hT1.swap.blocks hgrow2
  have r1 := cell_of_one (hB2 (B + 2) _ (by omega) hT1.h2)
  have r2 := free_of_one (hB2 (B + 2) _ (by omega) hT1.h2)
  clear hown2 hgrow2 hat2 hB2 s1 s2 s3 s4
  go_wp2
  go_end0
  exact ⟨rfl, ⟨_, _, hT2.swap⟩, hb1.trans hb2⟩

set_option maxHeartbeats 800000 in
theorem after_hit (B : Nat) (f : Int) (v1 v2 : Value) (xs1 xs2 : List Int) (p : Int) (hpf : p = f) (w : World) (hT : Two B (B + 1) (B + 2) f v1 v2 xs1 xs2 w) (l1 : xs1.length ≤ 1000) (l2 : xs2.length ≤ 1000) :
    Calls Try.prog 15 #[.int .i64 p, .pointer (some ⟨B + 1, 0, none⟩), .pointer (some ⟨B + 2, 0, none⟩), .pointer (some ⟨B, 0, none⟩), .pointer (some ⟨B + 4, 0, none⟩)] w fun e w' => e = .returned (.iface 49 (.pointer (some ⟨B + 3, 0, none⟩))) ∧ (∃ v1' v2', Two B (B + 1) (B + 2) f v1' v2' (xs1 ++ [2]) (xs2 ++ [p]) w') ∧ Below B w w' := by
  obtain ⟨i0, hi, hz0, hz1, hz2⟩ := info_parts info3
  have hsz := lt_of_block hT.stop
  have c1 := cell_of_one hT.h1
  subst hpf
  go_enter Try.func15, Try.ntmps15
  go_wp2_with (at_builtin; refine wpList_append_own_at _ rfl _ _ 24 rfl (B + 5) 3 i0 (.int .i64 0) 1 8 Try.underlying24 hi hz0 hz1 hz2 rfl (by decide) _ _ _ rfl (hT.o1.alloc _) ⟨w.heap.size, 0, none⟩ 1 1 [.int .i64 2] rfl rfl (cell_one_new _ _ _) (ints_oneCell .i64 [2]) (by unfold maxLen; omega) (by omega) (by simp; omega) ?_)
  intro v' w1 hown hgrow _ hat
  obtain ⟨g, cap, rfl⟩ := own_shape hown
  obtain ⟨hT1, hb1⟩ := hT.push (by omega) (by omega) (by omega) (by omega) hown hgrow hat
  have hB := hT.blocks hgrow
  have s1 := cell_of_one (hB (B + 1) _ (by omega) hT.h1)
  have s2 := free_of_one (hB (B + 1) _ (by omega) hT.h1)
  have s3 := cell_of_one (hB (B + 2) _ (by omega) hT.h2)
  have s4 := free_of_one (hB (B + 2) _ (by omega) hT.h2)
  have hsz1 := lt_of_block hT1.stop
  rw [size_set] at hsz1
  have hn2 := cell_one_new (w1.setCell ⟨B + 1, 0, none⟩ (.slice (some ⟨g, 0, none⟩) (xs1.length + 1) cap)) (.int .i64 p) 3
  rw [size_set] at hn2
  have HN : Hid (∀ j u, [Value.int .i64 p][j]? = some u → _ = some u) := hn2
  clear hown hgrow hat hB hn2
  go_wp2_with (at_builtin; refine wpList_append_own_at _ rfl _ _ 24 rfl (B + 5) 3 i0 (.int .i64 0) 1 8 Try.underlying24 hi hz0 hz1 hz2 rfl (by decide) _ _ _ rfl (hT1.o2.alloc _) ⟨w1.heap.size, 0, none⟩ 1 1 [.int .i64 p] rfl rfl HN.out (ints_oneCell .i64 [p]) (by unfold maxLen; omega) (by omega) (by simp; omega) ?_)
  intro v'' w2 hown2 hgrow2 _ hat2
  obtain ⟨g2, cap2, rfl⟩ := own_shape hown2
  obtain ⟨hT2, hb2⟩ := hT1.swap.push (by omega) (by omega) (by omega) (by omega) hown2 hgrow2 (by rw [size_set]; exact hat2)
  have hB2 := hT1.swap.blocks hgrow2
  have r1 := cell_of_one (hB2 (B + 2) _ (by omega) hT1.h2)
  have r2 := free_of_one (hB2 (B + 2) _ (by omega) hT1.h2)
  have r3 := cell_of_one (hB2 B _ (by omega) hT1.fail)
  have r4 := cell_of_one (hB2 (B + 4) _ (by omega) hT1.stop)
  clear hown2 hgrow2 hat2 hB2 s1 s2 s3 s4
  go_wp2
  go_ret
  exact ⟨rfl, ⟨_, _, hT2.swap⟩, hb1.trans hb2⟩

set_option maxHeartbeats 800000 in
theorem after_miss (B : Nat) (f : Int) (v1 v2 : Value) (xs1 xs2 : List Int) (p : Int) (hpf : p ≠ f) (w : World) (hT : Two B (B + 1) (B + 2) f v1 v2 xs1 xs2 w) (l1 : xs1.length ≤ 1000) (l2 : xs2.length ≤ 1000) :
    Calls Try.prog 15 #[.int .i64 p, .pointer (some ⟨B + 1, 0, none⟩), .pointer (some ⟨B + 2, 0, none⟩), .pointer (some ⟨B, 0, none⟩), .pointer (some ⟨B + 4, 0, none⟩)] w fun e w' => e = .returned (.nilIface) ∧ (∃ v1' v2', Two B (B + 1) (B + 2) f v1' v2' (xs1 ++ [2]) (xs2 ++ [p]) w') ∧ Below B w w' := by
  obtain ⟨i0, hi, hz0, hz1, hz2⟩ := info_parts info3
  have hsz := lt_of_block hT.stop
  have c1 := cell_of_one hT.h1
  go_enter Try.func15, Try.ntmps15
  go_wp2_with (at_builtin; refine wpList_append_own_at _ rfl _ _ 24 rfl (B + 5) 3 i0 (.int .i64 0) 1 8 Try.underlying24 hi hz0 hz1 hz2 rfl (by decide) _ _ _ rfl (hT.o1.alloc _) ⟨w.heap.size, 0, none⟩ 1 1 [.int .i64 2] rfl rfl (cell_one_new _ _ _) (ints_oneCell .i64 [2]) (by unfold maxLen; omega) (by omega) (by simp; omega) ?_)
  intro v' w1 hown hgrow _ hat
  obtain ⟨g, cap, rfl⟩ := own_shape hown
  obtain ⟨hT1, hb1⟩ := hT.push (by omega) (by omega) (by omega) (by omega) hown hgrow hat
  have hB := hT.blocks hgrow
  have s1 := cell_of_one (hB (B + 1) _ (by omega) hT.h1)
  have s2 := free_of_one (hB (B + 1) _ (by omega) hT.h1)
  have s3 := cell_of_one (hB (B + 2) _ (by omega) hT.h2)
  have s4 := free_of_one (hB (B + 2) _ (by omega) hT.h2)
  have hsz1 := lt_of_block hT1.stop
  rw [size_set] at hsz1
  have hn2 := cell_one_new (w1.setCell ⟨B + 1, 0, none⟩ (.slice (some ⟨g, 0, none⟩) (xs1.length + 1) cap)) (.int .i64 p) 3
  rw [size_set] at hn2
  have HN : Hid (∀ j u, [Value.int .i64 p][j]? = some u → _ = some u) := hn2
  clear hown hgrow hat hB hn2
  go_wp2_with (at_builtin; refine wpList_append_own_at _ rfl _ _ 24 rfl (B + 5) 3 i0 (.int .i64 0) 1 8 Try.underlying24 hi hz0 hz1 hz2 rfl (by decide) _ _ _ rfl (hT1.o2.alloc _) ⟨w1.heap.size, 0, none⟩ 1 1 [.int .i64 p] rfl rfl HN.out (ints_oneCell .i64 [p]) (by unfold maxLen; omega) (by omega) (by simp; omega) ?_)
  intro v'' w2 hown2 hgrow2 _ hat2
  obtain ⟨g2, cap2, rfl⟩ := own_shape hown2
  obtain ⟨hT2, hb2⟩ := hT1.swap.push (by omega) (by omega) (by omega) (by omega) hown2 hgrow2 (by rw [size_set]; exact hat2)
  have hB2 := hT1.swap.blocks hgrow2
  have r1 := cell_of_one (hB2 (B + 2) _ (by omega) hT1.h2)
  have r2 := free_of_one (hB2 (B + 2) _ (by omega) hT1.h2)
  have r3 := cell_of_one (hB2 B _ (by omega) hT1.fail)
  have r4 := cell_of_one (hB2 (B + 4) _ (by omega) hT1.stop)
  clear hown2 hgrow2 hat2 hB2 s1 s2 s3 s4
  go_wp2
  go_ret
  exact ⟨rfl, ⟨_, _, hT2.swap⟩, hb1.trans hb2⟩

end Go.Proofs.Qxb6609130a
