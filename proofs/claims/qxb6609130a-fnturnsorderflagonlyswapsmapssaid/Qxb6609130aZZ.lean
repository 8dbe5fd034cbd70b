import Derived.Test.Qxb6609130aTurns
import Derived.LaidEql
import Derived.BigQuiet
namespace Go.Proofs.Qxb6609130a
open Go.RowKit

set_option maxHeartbeats 400000 in
theorem errNew_any (s : ByteArray) (w : World) :
    Calls Try.prog 12 #[.string s] w fun e w' => e = .returned (.iface 49 (.pointer (some ⟨w.heap.size, 0, none⟩))) ∧ w' = w.alloc (.cells #[.string s] 51) := by
  go_enter Try.func12, Try.ntmps12
  go_wp2
  go_ret
  exact ⟨rfl, rfl⟩

/-- the world in which 'ZZTurnsLog' calls 'Turns': five new blocks -/
def laid (s : ByteArray) (f : Int) (w : World) : World :=
  ((((w.alloc (.cells #[.int .i64 f] 3)).alloc (.cells #[.slice none 0 0] 24)).alloc (.cells #[.slice none 0 0] 24)).alloc (.cells #[.string s] 51)).alloc (.cells #[.iface 49 (.pointer (some ⟨w.heap.size + 3, 0, none⟩))] 26)

theorem laid_log (s : ByteArray) (f : Int) (tg pz : Nat → Int) (w : World) : LogInv w.heap.size f tg pz 0 (laid s f w) := by
  refine ⟨.slice none 0 0, .slice none 0 0, ?_, ?_, World.ownsRow_nil _ _ _ _, World.ownsRow_nil _ _ _ _, fun k e => by simp [Value.ownBlock] at e, ?_, ?_⟩
  · unfold laid
    rw [Below.heap_alloc _ _ _ (by simp), Below.heap_alloc _ _ _ (by simp), Below.heap_alloc _ _ _ (by simp)]
    have := heap_alloc_new (w.alloc (.cells #[.int .i64 f] 3)) (.cells #[.slice none 0 0] 24)
    simpa using this
  · unfold laid
    rw [Below.heap_alloc _ _ _ (by simp), Below.heap_alloc _ _ _ (by simp)]
    have := heap_alloc_new ((w.alloc (.cells #[.int .i64 f] 3)).alloc (.cells #[.slice none 0 0] 24)) (.cells #[.slice none 0 0] 24)
    simpa using this
  · unfold laid
    rw [Below.heap_alloc _ _ _ (by simp; omega), Below.heap_alloc _ _ _ (by simp; omega), Below.heap_alloc _ _ _ (by simp; omega), Below.heap_alloc _ _ _ (by simp)]
    exact heap_alloc_new _ _
  · have := heap_alloc_new ((((w.alloc (.cells #[.int .i64 f] 3)).alloc (.cells #[.slice none 0 0] 24)).alloc (.cells #[.slice none 0 0] 24)).alloc (.cells #[.string s] 51)) (.cells #[.iface 49 (.pointer (some ⟨w.heap.size + 3, 0, none⟩))] 26)
    simpa [laid] using this

theorem laid_below (s : ByteArray) (f : Int) (w : World) : Below w.heap.size w (laid s f w) :=
  (((((Below.refl _ _).alloc (Nat.le_refl _) _).alloc (by simp) _).alloc (by simp; omega) _).alloc (by simp; omega) _).alloc (by simp; omega) _

/-- What the log gives to whoever reads it: two slices of m cells. -/
def Rows2 (B m : Nat) (tg pz : Nat → Int) (v1 v2 : Value) (w : World) : Prop :=
  ∃ g1 c1 g2 c2, v1 = .slice (some ⟨g1, 0, none⟩) m c1 ∧ v2 = .slice (some ⟨g2, 0, none⟩) m c2 ∧ B ≤ g1 ∧ g1 < w.heap.size ∧ B ≤ g2 ∧ g2 < w.heap.size ∧
    (∀ i, i < m → w.cell? ⟨g1, i, none⟩ = some (.int .i64 (tg i))) ∧ (∀ i, i < m → w.cell? ⟨g2, i, none⟩ = some (.int .i64 (pz i)))

theorem row_read {B m : Nat} {tg : Nat → Int} {v : Value} {w : World} (hm : 0 < m) (h : w.ownsRow (B + 5) 3 1 v ((List.range m).map tg).length (((List.range m).map tg).map (Value.int .i64))) :
    ∃ g c, v = .slice (some ⟨g, 0, none⟩) m c ∧ B ≤ g ∧ g < w.heap.size ∧ ∀ i, i < m → w.cell? ⟨g, i, none⟩ = some (.int .i64 (tg i)) := by
  have hl : ((List.range m).map tg).length = (m - 1) + 1 := by simp; omega
  have hc := fun g (e : v.ownBlock = some g) => h.cells e
  have hlt := h.lt
  rw [hl] at h
  obtain ⟨g, c, rfl⟩ := own_shape h
  have e : m - 1 + 1 = m := by omega
  refine ⟨g, c, by rw [e], by have := (hlt g rfl).1; omega, (hlt g rfl).2, fun i hi => ?_⟩
  have := hc g rfl i (.int .i64 (tg i)) (by simp [hi])
  rw [Addr.add_lit, Nat.zero_add] at this
  exact this

theorem log_read {B m : Nat} {f : Int} {tg pz : Nat → Int} {v1 v2 : Value} {w : World} (hm : 0 < m) (h : Two B (B + 1) (B + 2) f v1 v2 ((List.range m).map tg) ((List.range m).map pz) w) : Rows2 B m tg pz v1 v2 w := by
  obtain ⟨g1, c1, e1, b1, l1, r1⟩ := row_read hm h.o1
  obtain ⟨g2, c2, e2, b2, l2, r2⟩ := row_read hm h.o2
  exact ⟨g1, c1, g2, c2, e1, e2, b1, l1, b2, l2, r1, r2⟩

theorem Rows2.kept {B m : Nat} {tg pz : Nat → Int} {v1 v2 : Value} {w w' : World} (h : Rows2 B m tg pz v1 v2 w) (hb : Below w.heap.size w w') : Rows2 B m tg pz v1 v2 w' := by
  obtain ⟨g1, c1, g2, c2, e1, e2, b1, l1, b2, l2, r1, r2⟩ := h
  have hs := hb.size
  exact ⟨g1, c1, g2, c2, e1, e2, b1, by omega, b2, by omega, fun i hi => (hb.cell (p := ⟨g1, i, none⟩) l1).trans (r1 i hi), fun i hi => (hb.cell (p := ⟨g2, i, none⟩) l2).trans (r2 i hi)⟩

set_option maxHeartbeats 400000 in
theorem zz_plain (o : Bool) (f : Int) (w : World) :
    Calls Try.prog 9 #[.bool o, .bool false, .int .i64 f] w fun e w' => ∃ v1 v2, e = .returned (.tuple #[v1, v2, .nilIface, .bool false]) ∧ Rows2 w.heap.size 128 (tagAt o 2) (turnAt 2) v1 v2 w' ∧ Below w.heap.size w w' := by
  have hE : ∀ (W : World) (v : Value), (binOp .eql 26 .nilIface (.iface 49 v)).run Try.prog W = .ok (.bool false) W := fun W v => run_eql_iface_nil_left W 49 v Try.underlying26
  go_enter Try.func9, Try.ntmps9
  go_wp2_with (go_at_call 12; refine (errNew_any _ _).mono ?_; rintro e w' ⟨rfl, rfl⟩)
  refine (turns_plain o w.heap.size f (laid _ f w) (laid_log _ f _ _ w)).mono ?_
  rintro e w1 ⟨rfl, ⟨v1, v2, hT⟩, hb⟩
  have c1 := cell_of_one hT.h1
  have c2 : w1.cell? ⟨w.heap.size + 1 + 1, 0, none⟩ = some v2 := cell_of_one hT.h2
  have c3 : w1.cell? ⟨w.heap.size + 1 + 1 + 1 + 1, 0, none⟩ = some (.iface 49 (.pointer (some ⟨w.heap.size + 1 + 1 + 1, 0, none⟩))) := cell_of_one hT.stop
  have hR := log_read (by omega) hT
  have hB := (laid_below _ f w).trans hb
  clear hT hb
  go_wp2
  go_region
  go_wp2
  exact bodyPost_ret (v := .tuple #[v1, v2, .nilIface, .bool false]) (by simp [results, Try.results9, go_sem]) rfl ⟨v1, v2, rfl, hR, hB.drew⟩

theorem comp49 : (Try.prog.info? 49).map (fun i => i.comparable) = some true := by kernel_rfl
theorem comp51 : (Try.prog.info? 51).map (fun i => i.size) = some 1 := by kernel_rfl

theorem eql_same (a : Addr) (W : World) : (binOp .eql 26 (.iface 49 (.pointer (some a))) (.iface 49 (.pointer (some a)))).run Try.prog W = .ok (.bool true) W := by
  obtain ⟨i, hi, hc⟩ := Option.map_eq_some_iff.1 comp49
  obtain ⟨j, hj, _⟩ := Option.map_eq_some_iff.1 comp51
  exact run_eql_iface_ptr_same W a Try.underlying26 Try.underlying49 hi hc hj

set_option maxHeartbeats 800000 in
theorem zz_after (o : Bool) (f : Int) (w : World) :
    Calls Try.prog 9 #[.bool o, .bool true, .int .i64 f] w fun e w' => ∃ v1 v2, Below w.heap.size w w' ∧
      ((∃ k : Nat, k < 64 ∧ f = k ∧ e = .returned (.tuple #[v1, v2, .iface 49 (.pointer (some ⟨w.heap.size + 3, 0, none⟩)), .bool true]) ∧ Rows2 w.heap.size ((k + 1) * 3) (tagAt o 3) (turnAt 3) v1 v2 w') ∨
       ((f < 0 ∨ 64 ≤ f) ∧ e = .returned (.tuple #[v1, v2, .nilIface, .bool false]) ∧ Rows2 w.heap.size 192 (tagAt o 3) (turnAt 3) v1 v2 w')) := by
  have hE : ∀ (W : World) (v : Value), (binOp .eql 26 .nilIface (.iface 49 v)).run Try.prog W = .ok (.bool false) W := fun W v => run_eql_iface_nil_left W 49 v Try.underlying26
  have hS := eql_same
  go_enter Try.func9, Try.ntmps9
  go_wp2_with (go_at_call 12; refine (errNew_any _ _).mono ?_; rintro e w' ⟨rfl, rfl⟩)
  refine (turns_after o w.heap.size f (laid _ f w) (laid_log _ f _ _ w)).mono ?_
  rintro e w1 (⟨k, hk, hf, rfl, ⟨v1, v2, hT⟩, hb⟩ | ⟨hf, rfl, ⟨v1, v2, hT⟩, hb⟩)
  · have HF : Hid (f = k) := hf
    clear hf
    have c1 := cell_of_one hT.h1
    have c2 : w1.cell? ⟨w.heap.size + 1 + 1, 0, none⟩ = some v2 := cell_of_one hT.h2
    have c3 : w1.cell? ⟨w.heap.size + 1 + 1 + 1 + 1, 0, none⟩ = some (.iface 49 (.pointer (some ⟨w.heap.size + 3, 0, none⟩))) := cell_of_one hT.stop
    have hR := log_read (by omega) hT
    have hB := (laid_below _ f w).trans hb
    clear hT hb
    go_wp2
    go_region
    go_wp2
    exact bodyPost_ret (v := .tuple #[v1, v2, .iface 49 (.pointer (some ⟨w.heap.size + 3, 0, none⟩)), .bool true]) (by simp [results, Try.results9, go_sem]) rfl ⟨v1, v2, hB.drew, Or.inl ⟨k, hk, HF.out, rfl, hR⟩⟩
  · have HF : Hid (f < 0 ∨ 64 ≤ f) := hf
    clear hf
    have c1 := cell_of_one hT.h1
    have c2 : w1.cell? ⟨w.heap.size + 1 + 1, 0, none⟩ = some v2 := cell_of_one hT.h2
    have c3 : w1.cell? ⟨w.heap.size + 1 + 1 + 1 + 1, 0, none⟩ = some (.iface 49 (.pointer (some ⟨w.heap.size + 3, 0, none⟩))) := cell_of_one hT.stop
    have hR := log_read (by omega) hT
    have hB := (laid_below _ f w).trans hb
    clear hT hb
    go_wp2
    go_region
    go_wp2
    exact bodyPost_ret (v := .tuple #[v1, v2, .nilIface, .bool false]) (by simp [results, Try.results9, go_sem]) rfl ⟨v1, v2, hB.drew, Or.inr ⟨HF.out, rfl, hR⟩⟩

end Go.Proofs.Qxb6609130a
