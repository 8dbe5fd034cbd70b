import Derived.Test.Qxb6608978aRows
import Derived.WalkKit
import Derived.ProofKit
import Derived.Deep.OwnRows
namespace Go.Proofs.Qxb6608978a
open Go.RowKit

theorem info27 : (Try.prog.info? 27).map (fun i => (i.zero, i.size, i.bytes)) = some (some (.int .u64 0), 1, 8) := by kernel_rfl

/-- how many words hold n*n bits -/
def wordsOf (n : Nat) : Nat := (n * n + 63) / 64

theorem wordsOf_int (n : Nat) : ((n : Int) * n + 63) / 64 = (wordsOf n : Int) := by
  unfold wordsOf; push_cast; rfl

theorem wordsOf_le (n : Nat) (h : n ≤ 2048) : wordsOf n ≤ 65536 := by
  have : n * n ≤ 2048 * 2048 := Nat.mul_le_mul h h
  unfold wordsOf; omega

/-- the two blocks that 'newAdjacency' lays: the structure, the row of zero words -/
def adjW (n : Nat) (w : World) : World :=
  (w.alloc (.cells #[.int .i64 n, .slice (some ⟨w.heap.size + 1, 0, none⟩) (wordsOf n) (wordsOf n)] 31)).alloc (.cells (madeCells #[.int .u64 0] (wordsOf n)) 27)

set_option maxHeartbeats 400000 in
theorem newAdj_any (n : Nat) (h : n ≤ 2048) (w : World) :
    Calls Try.prog 10 #[.int .i64 n] w fun e w' => e = .returned (.agg #[.int .i64 n, .slice (some ⟨w.heap.size + 1, 0, none⟩) (wordsOf n) (wordsOf n)]) ∧ w' = adjW n w := by
  have hm : (n : Int) * n ≤ 4194304 := by
    have : n * n ≤ 2048 * 2048 := Nat.mul_le_mul h h
    have h2 : ((n * n : Nat) : Int) ≤ 4194304 := by omega
    rwa [Int.natCast_mul] at h2
  have hm0 : 0 ≤ (n : Int) * n := Int.mul_nonneg (by omega) (by omega)
  have hw := wordsOf_le n h
  have hmk := run_make_row' (P := Try.prog) 24 27 (.int .u64 0) 8 Try.underlying24 info27 rfl .i64 .i64 (wordsOf n) (by omega) (by omega)
  have hwi := wordsOf_int n
  go_enter Try.func10, Try.ntmps10
  go_wp2
  exact bodyPost_ret (v := .agg #[.int .i64 n, .slice (some ⟨w.heap.size + 1, 0, none⟩) (wordsOf n) (wordsOf n)]) (by simp [results, Try.results10, go_sem]) rfl ⟨rfl, rfl⟩

theorem adjW_size (n : Nat) (w : World) : (adjW n w).heap.size = w.heap.size + 2 := by
  simp [adjW]

/-- the world behind 'ZZNewAdjacency': one block more (the copy of the structure), one draw -/
def zzW (n : Nat) (w : World) : World :=
  ((adjW n w).alloc (.cells #[.int .i64 n, .slice (some ⟨w.heap.size + 1, 0, none⟩) (wordsOf n) (wordsOf n)] 31)).drew

theorem zzW_size (n : Nat) (w : World) : (zzW n w).heap.size = w.heap.size + 3 := by
  simp [zzW, adjW_size]

theorem zzW_grown (n : Nat) {W w : World} (h : Grown W w) : Grown W (zzW n w) :=
  ((((h.alloc _ _)).alloc _ _).alloc _ _).drew

theorem zzW_row (n : Nat) (w : World) : (zzW n w).rowIs (w.heap.size + 1) 27 (wordsOf n) (fun _ => .int .u64 0) := by
  have h := World.rowIs_made (w.alloc (.cells #[.int .i64 n, .slice (some ⟨w.heap.size + 1, 0, none⟩) (wordsOf n) (wordsOf n)] 31)) (.int .u64 0) (wordsOf n) 27
  have e : (w.alloc (.cells #[.int .i64 n, .slice (some ⟨w.heap.size + 1, 0, none⟩) (wordsOf n) (wordsOf n)] 31)).heap.size = w.heap.size + 1 := by simp
  rw [e] at h
  exact (h.alloc _).drew

theorem zzW_old {n : Nat} {w : World} {b : Nat} {t : TypeId} {k : Nat} {f : Nat → Value} (h : w.rowIs b t k f) : (zzW n w).rowIs b t k f :=
  (((h.alloc _).alloc _).alloc _).drew

set_option maxHeartbeats 400000 in
theorem zzNewAdj_any (n : Nat) (h : n ≤ 2048) (w : World) :
    Calls Try.prog 8 #[.int .i64 n] w fun e w' => e = .returned (.tuple #[.int .i64 n, .slice (some ⟨w.heap.size + 1, 0, none⟩) (wordsOf n) (wordsOf n)]) ∧ w' = zzW n w := by
  have hs := adjW_size n w
  go_enter Try.func8, Try.ntmps8
  go_wp2_with (go_at_call 10; refine (newAdj_any n h _).mono ?_; rintro e w' ⟨rfl, rfl⟩)
  go_region
  go_wp2
  go_ret2
  exact ⟨rfl, rfl⟩

end Go.Proofs.Qxb6608978a
