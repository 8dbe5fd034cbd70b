import Derived.Test.Qxb6609130aRows
import Derived.WalkKit
import Derived.ProofKit
import Derived.Maps.AppendAt
namespace Go.Proofs.Qxb6609130a
open Go.RowKit

theorem info3 : (Try.prog.info? 3).map (fun i => (i.zero, i.size, i.bytes)) = some (some (.int .i64 0), 1, 8) := by kernel_rfl

/-- Two captured slice variables (blocks b1, b2), each owning a row of ints of its own, and the two other captured variables: 'failAt' (block B), 'stop' (block B + 4). -/
structure Two (B b1 b2 : Nat) (f : Int) (v1 v2 : Value) (xs1 xs2 : List Int) (w : World) : Prop where
  h1 : w.heap[b1]? = some (.cells #[v1] 24 (0, 0))
  h2 : w.heap[b2]? = some (.cells #[v2] 24 (0, 0))
  o1 : w.ownsRow (B + 5) 3 1 v1 xs1.length (xs1.map (Value.int .i64))
  o2 : w.ownsRow (B + 5) 3 1 v2 xs2.length (xs2.map (Value.int .i64))
  dj : ∀ k, v1.ownBlock = some k → v2.ownBlock ≠ some k
  fail : w.heap[B]? = some (.cells #[.int .i64 f] 3 (0, 0))
  stop : w.heap[B + 4]? = some (.cells #[.iface 49 (.pointer (some ⟨B + 3, 0, none⟩))] 26 (0, 0))

theorem Two.swap {B b1 b2 : Nat} {f : Int} {v1 v2 : Value} {xs1 xs2 : List Int} {w : World} (h : Two B b1 b2 f v1 v2 xs1 xs2 w) : Two B b2 b1 f v2 v1 xs2 xs1 w :=
  ⟨h.h2, h.h1, h.o2, h.o1, fun k e e' => h.dj k e' e, h.fail, h.stop⟩

/-- What an append onto the first of the two leaves, ahead of the store into its variable. -/
theorem Two.blocks {B b1 b2 : Nat} {f : Int} {v1 v2 : Value} {xs1 xs2 : List Int} {w w1 : World} {x : Int} (h : Two B b1 b2 f v1 v2 xs1 xs2 w)
    (hg : (w.alloc (.cells #[.int .i64 x] 3)).grownBy w1 v1.ownBlock) : ∀ k o, k < B + 5 → w.heap[k]? = some o → w1.heap[k]? = some o := by
  intro k o hk ho
  have hlt := lt_of_block ho
  rw [hg.block k (by simp; omega) (fun e => by have := (h.o1.lt k e.symm).1; omega), Below.heap_alloc _ _ _ hlt]
  exact ho

theorem Two.push {B b1 b2 : Nat} {f : Int} {v1 v2 : Value} {xs1 xs2 : List Int} {w w1 : World} {x : Int} {v' : Value} (h : Two B b1 b2 f v1 v2 xs1 xs2 w)
    (hb1 : B < b1) (hb1' : b1 < B + 4) (hb2 : b2 < B + 4) (hne : b1 ≠ b2)
    (hown : w1.ownsRow (B + 5) 3 1 v' (xs1.length + 1) (xs1.map (Value.int .i64) ++ [.int .i64 x]))
    (hg : (w.alloc (.cells #[.int .i64 x] 3)).grownBy w1 v1.ownBlock)
    (hat : v'.ownBlock = v1.ownBlock ∨ v'.ownBlock = some (w.heap.size + 1)) :
    Two B b1 b2 f v' v2 (xs1 ++ [x]) xs2 (w1.setCell ⟨b1, 0, none⟩ v') ∧ Below B w (w1.setCell ⟨b1, 0, none⟩ v') := by
  have hb := h.blocks hg
  have h1' := hb b1 _ (by omega) h.h1
  have e4 := lt_of_block h.stop
  have hd : ∀ k, v'.ownBlock = some k → v2.ownBlock ≠ some k := by
    intro k hk hk2
    rcases hat with e | e
    · exact h.dj k (e.symm.trans hk) hk2
    · rw [e] at hk
      have := (h.o2.lt k hk2).2
      have := Option.some.inj hk
      omega
  have ho2 : w1.ownsRow (B + 5) 3 1 v2 xs2.length (xs2.map (Value.int .i64)) := by
    refine (h.o2.alloc (.cells #[.int .i64 x] 3)).kept hg ?_
    cases hv : v2.ownBlock with
    | none => exact Or.inl rfl
    | some k => exact Or.inr (fun e => h.dj k e.symm hv)
  have hn : ∀ (v : Value) (n : Nat) (ys : List Value), w1.ownsRow (B + 5) 3 1 v n ys → v.ownBlock ≠ some b1 := fun v n ys ho e => by
    have := (ho.lt b1 e).1; omega
  refine ⟨⟨one_setCell h1', ?_, ?_, ?_, hd, ?_, ?_⟩, ?_⟩
  · rw [Below.heap_setCell _ _ _ _ (by show b2 ≠ b1; omega)]; exact hb b2 _ (by omega) h.h2
  · have := ownsRow_setCell_other hown (a := ⟨b1, 0, none⟩) (hn _ _ _ hown) v'
    simpa using this
  · exact ownsRow_setCell_other ho2 (a := ⟨b1, 0, none⟩) (hn _ _ _ ho2) v'
  · rw [Below.heap_setCell _ _ _ _ (by show B ≠ b1; omega)]; exact hb B _ (by omega) h.fail
  · rw [Below.heap_setCell _ _ _ _ (by show B + 4 ≠ b1; omega)]; exact hb (B + 4) _ (by omega) h.stop
  · refine (((Below.refl B w).alloc (by omega) _).grown hg (by simp; omega) (fun k hk => ?_)).setCell (by show B ≤ b1; omega) _
    have := (h.o1.lt k hk).1
    omega

/-- The log: m calls so far: call i has tag 'tg i' and turn 'pz i'. -/
def LogInv (B : Nat) (f : Int) (tg pz : Nat → Int) (m : Nat) (w : World) : Prop :=
  ∃ v1 v2, Two B (B + 1) (B + 2) f v1 v2 ((List.range m).map tg) ((List.range m).map pz) w

end Go.Proofs.Qxb6609130a
