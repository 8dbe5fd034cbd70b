import Derived.Test.Qxb6609130aClosures
namespace Go.Proofs.Qxb6609130a
open Go.RowKit

theorem range_push (g : Nat → Int) (m : Nat) : (List.range (m + 1)).map g = (List.range m).map g ++ [g m] := by
  rw [List.range_succ, List.map_append]; rfl

theorem len_range (g : Nat → Int) (m : Nat) (h : m ≤ 1000) : ((List.range m).map g).length ≤ 1000 := by simpa using h

theorem octo_log (B : Nat) (f : Int) (tg pz : Nat → Int) (m : Nat) (p : Int) (w : World) (h : LogInv B f tg pz m w) (hm : m ≤ 1000) (ht : tg m = 0) (hp : pz m = p) :
    Calls Try.prog 13 #[.int .i64 p, .pointer (some ⟨B + 1, 0, none⟩), .pointer (some ⟨B + 2, 0, none⟩)] w fun e w' => e = .returned (.tuple #[]) ∧ LogInv B f tg pz (m + 1) w' ∧ Below B w w' := by
  obtain ⟨v1, v2, hT⟩ := h
  refine (octo_two B f v1 v2 _ _ p w hT (len_range _ _ hm) (len_range _ _ hm)).mono ?_
  rintro e w' ⟨rfl, ⟨v1', v2', hT'⟩, hb⟩
  refine ⟨rfl, ⟨v1', v2', ?_⟩, hb⟩
  rw [range_push, range_push, ht, hp]
  exact hT'

theorem ref_log (B : Nat) (f : Int) (tg pz : Nat → Int) (m : Nat) (p : Int) (w : World) (h : LogInv B f tg pz m w) (hm : m ≤ 1000) (ht : tg m = 1) (hp : pz m = p) :
    Calls Try.prog 14 #[.int .i64 p, .pointer (some ⟨B + 1, 0, none⟩), .pointer (some ⟨B + 2, 0, none⟩)] w fun e w' => e = .returned (.tuple #[]) ∧ LogInv B f tg pz (m + 1) w' ∧ Below B w w' := by
  obtain ⟨v1, v2, hT⟩ := h
  refine (ref_two B f v1 v2 _ _ p w hT (len_range _ _ hm) (len_range _ _ hm)).mono ?_
  rintro e w' ⟨rfl, ⟨v1', v2', hT'⟩, hb⟩
  refine ⟨rfl, ⟨v1', v2', ?_⟩, hb⟩
  rw [range_push, range_push, ht, hp]
  exact hT'

theorem hit_log (B : Nat) (f : Int) (tg pz : Nat → Int) (m : Nat) (p : Int) (w : World) (hpf : p = f) (h : LogInv B f tg pz m w) (hm : m ≤ 1000) (ht : tg m = 2) (hp : pz m = p) :
    Calls Try.prog 15 #[.int .i64 p, .pointer (some ⟨B + 1, 0, none⟩), .pointer (some ⟨B + 2, 0, none⟩), .pointer (some ⟨B, 0, none⟩), .pointer (some ⟨B + 4, 0, none⟩)] w fun e w' => e = .returned (.iface 49 (.pointer (some ⟨B + 3, 0, none⟩))) ∧ LogInv B f tg pz (m + 1) w' ∧ Below B w w' := by
  obtain ⟨v1, v2, hT⟩ := h
  refine (after_hit B f v1 v2 _ _ p hpf w hT (len_range _ _ hm) (len_range _ _ hm)).mono ?_
  rintro e w' ⟨rfl, ⟨v1', v2', hT'⟩, hb⟩
  refine ⟨rfl, ⟨v1', v2', ?_⟩, hb⟩
  rw [range_push, range_push, ht, hp]
  exact hT'

theorem miss_log (B : Nat) (f : Int) (tg pz : Nat → Int) (m : Nat) (p : Int) (w : World) (hpf : p ≠ f) (h : LogInv B f tg pz m w) (hm : m ≤ 1000) (ht : tg m = 2) (hp : pz m = p) :
    Calls Try.prog 15 #[.int .i64 p, .pointer (some ⟨B + 1, 0, none⟩), .pointer (some ⟨B + 2, 0, none⟩), .pointer (some ⟨B, 0, none⟩), .pointer (some ⟨B + 4, 0, none⟩)] w fun e w' => e = .returned .nilIface ∧ LogInv B f tg pz (m + 1) w' ∧ Below B w w' := by
  obtain ⟨v1, v2, hT⟩ := h
  refine (after_miss B f v1 v2 _ _ p hpf w hT (len_range _ _ hm) (len_range _ _ hm)).mono ?_
  rintro e w' ⟨rfl, ⟨v1', v2', hT'⟩, hb⟩
  refine ⟨rfl, ⟨v1', v2', ?_⟩, hb⟩
  rw [range_push, range_push, ht, hp]
  exact hT'

/-- call i's tag, 's' calls a turn, octo first or not -/
def tagAt (o : Bool) (s i : Nat) : Int := if i % s = 0 then (if o then 0 else 1) else if i % s = 1 then (if o then 1 else 0) else 2
/-- call i's turn -/
def turnAt (s i : Nat) : Int := ((i / s : Nat) : Int)

theorem tag2_0 (o : Bool) (k : Nat) : tagAt o 2 (k * 2) = if o then 0 else 1 := by
  unfold tagAt; rw [if_pos (by omega)]
theorem tag2_1 (o : Bool) (k : Nat) : tagAt o 2 (k * 2 + 1) = if o then 1 else 0 := by
  unfold tagAt; rw [if_neg (by omega), if_pos (by omega)]
theorem turn2_0 (k : Nat) : turnAt 2 (k * 2) = k := by unfold turnAt; congr 1; omega
theorem turn2_1 (k : Nat) : turnAt 2 (k * 2 + 1) = k := by unfold turnAt; congr 1; omega
theorem tag3_0 (o : Bool) (k : Nat) : tagAt o 3 (k * 3) = if o then 0 else 1 := by
  unfold tagAt; rw [if_pos (by omega)]
theorem tag3_1 (o : Bool) (k : Nat) : tagAt o 3 (k * 3 + 1) = if o then 1 else 0 := by
  unfold tagAt; rw [if_neg (by omega), if_pos (by omega)]
theorem tag3_2 (o : Bool) (k : Nat) : tagAt o 3 (k * 3 + 1 + 1) = 2 := by
  unfold tagAt; rw [if_neg (by omega), if_neg (by omega)]
theorem turn3_0 (k : Nat) : turnAt 3 (k * 3) = k := by unfold turnAt; congr 1; omega
theorem turn3_1 (k : Nat) : turnAt 3 (k * 3 + 1) = k := by unfold turnAt; congr 1; omega
theorem turn3_2 (k : Nat) : turnAt 3 (k * 3 + 1 + 1) = k := by unfold turnAt; congr 1; omega

theorem eql_nn (w : World) : (binOp .eql 37 .nilFunc .nilFunc).run Try.prog w = .ok (.bool true) w := by rfl
theorem eql_fn (fn : Fn) (a c : Array Value) (w : World) : (binOp .eql 37 (.func fn a c) .nilFunc).run Try.prog w = .ok (.bool false) w := by rfl

set_option maxHeartbeats 800000 in
theorem turns_plain (o : Bool) (B : Nat) (f : Int) (w : World) (h : LogInv B f (tagAt o 2) (turnAt 2) 0 w) :
    Calls Try.prog 16 #[.bool o, .func (.func 13) #[] #[.pointer (some ⟨B + 1, 0, none⟩), .pointer (some ⟨B + 2, 0, none⟩)], .func (.func 14) #[] #[.pointer (some ⟨B + 1, 0, none⟩), .pointer (some ⟨B + 2, 0, none⟩)], .nilFunc] w
      fun e w' => e = .returned .nilIface ∧ LogInv B f (tagAt o 2) (turnAt 2) 128 w' ∧ Below B w w' := by
  have hnn := eql_nn
  cases o
  · go_enter Try.func16, Try.ntmps16
    go_wp2
    go_loopw [19] (fun i wr => ∃ k : Nat, k ≤ 64 ∧ i = .int .i64 k ∧ LogInv B f (tagAt false 2) (turnAt 2) (k * 2) wr ∧ Below B w wr) (fun i _ => 64 - (intOf i).toNat)
    case atStart => exact ⟨0, Nat.zero_le _, rfl, h, Below.refl _ _⟩
    case round =>
      obtain ⟨k, hk, rfl, hI, hb⟩ := hrel
      by_cases hlt : k < 64
      · go_wp2_with fail
        refine (ref_log B f (tagAt false 2) (turnAt 2) (k * 2) k _ hI (by omega) (tag2_0 _ _) (turn2_0 _)).mono ?_
        rintro e w1 ⟨rfl, hI1, hb1⟩
        go_wp2_with fail
        refine (octo_log B f (tagAt false 2) (turnAt 2) (k * 2 + 1) k _ hI1 (by omega) (tag2_1 _ _) (turn2_1 _)).mono ?_
        rintro e w2 ⟨rfl, hI2, hb2⟩
        go_wp2
        go_roundw
        case rel => exact ⟨k + 1, by omega, by go_num, by rw [show (k + 1) * 2 = k * 2 + 1 + 1 from by omega]; exact hI2, (hb.trans hb1).trans hb2⟩
        case measure => simp [intOf]; omega
      · obtain rfl : k = 64 := by omega
        go_wp2
        go_ret
        exact ⟨rfl, hI, hb⟩
  · go_enter Try.func16, Try.ntmps16
    go_wp2
    go_loopw [19] (fun i wr => ∃ k : Nat, k ≤ 64 ∧ i = .int .i64 k ∧ LogInv B f (tagAt true 2) (turnAt 2) (k * 2) wr ∧ Below B w wr) (fun i _ => 64 - (intOf i).toNat)
    case atStart => exact ⟨0, Nat.zero_le _, rfl, h, Below.refl _ _⟩
    case round =>
      obtain ⟨k, hk, rfl, hI, hb⟩ := hrel
      by_cases hlt : k < 64
      · go_wp2_with fail
        refine (octo_log B f (tagAt true 2) (turnAt 2) (k * 2) k _ hI (by omega) (tag2_0 _ _) (turn2_0 _)).mono ?_
        rintro e w1 ⟨rfl, hI1, hb1⟩
        go_wp2_with fail
        refine (ref_log B f (tagAt true 2) (turnAt 2) (k * 2 + 1) k _ hI1 (by omega) (tag2_1 _ _) (turn2_1 _)).mono ?_
        rintro e w2 ⟨rfl, hI2, hb2⟩
        go_wp2
        go_roundw
        case rel => exact ⟨k + 1, by omega, by go_num, by rw [show (k + 1) * 2 = k * 2 + 1 + 1 from by omega]; exact hI2, (hb.trans hb1).trans hb2⟩
        case measure => simp [intOf]; omega
      · obtain rfl : k = 64 := by omega
        go_wp2
        go_ret
        exact ⟨rfl, hI, hb⟩

set_option maxHeartbeats 1600000 in
theorem turns_after (o : Bool) (B : Nat) (f : Int) (w : World) (h : LogInv B f (tagAt o 3) (turnAt 3) 0 w) :
    Calls Try.prog 16 #[.bool o, .func (.func 13) #[] #[.pointer (some ⟨B + 1, 0, none⟩), .pointer (some ⟨B + 2, 0, none⟩)], .func (.func 14) #[] #[.pointer (some ⟨B + 1, 0, none⟩), .pointer (some ⟨B + 2, 0, none⟩)], .func (.func 15) #[] #[.pointer (some ⟨B + 1, 0, none⟩), .pointer (some ⟨B + 2, 0, none⟩), .pointer (some ⟨B, 0, none⟩), .pointer (some ⟨B + 4, 0, none⟩)]] w
      fun e w' => (∃ k : Nat, k < 64 ∧ f = k ∧ e = .returned (.iface 49 (.pointer (some ⟨B + 3, 0, none⟩))) ∧ LogInv B f (tagAt o 3) (turnAt 3) ((k + 1) * 3) w' ∧ Below B w w') ∨
        ((f < 0 ∨ 64 ≤ f) ∧ e = .returned .nilIface ∧ LogInv B f (tagAt o 3) (turnAt 3) 192 w' ∧ Below B w w') := by
  have hfn := eql_fn
  cases o
  · go_enter Try.func16, Try.ntmps16
    go_wp2
    go_loopw [19] (fun i wr => ∃ k : Nat, k ≤ 64 ∧ i = .int .i64 k ∧ (f < 0 ∨ (k : Int) ≤ f) ∧ LogInv B f (tagAt false 3) (turnAt 3) (k * 3) wr ∧ Below B w wr) (fun i _ => 64 - (intOf i).toNat)
    case atStart => exact ⟨0, Nat.zero_le _, rfl, by omega, h, Below.refl _ _⟩
    case round =>
      obtain ⟨k, hk, rfl, hno, hI, hb⟩ := hrel
      have HO : Hid (f < 0 ∨ (k : Int) ≤ f) := hno
      clear hno
      by_cases hlt : k < 64
      · by_cases hf : (k : Int) = f
        · have HF : Hid ((k : Int) = f) := hf
          clear hf
          go_wp2_with fail
          refine (ref_log B f (tagAt false 3) (turnAt 3) (k * 3) k _ hI (by omega) (tag3_0 _ _) (turn3_0 _)).mono ?_
          rintro e w1 ⟨rfl, hI1, hb1⟩
          go_wp2_with fail
          refine (octo_log B f (tagAt false 3) (turnAt 3) (k * 3 + 1) k _ hI1 (by omega) (tag3_1 _ _) (turn3_1 _)).mono ?_
          rintro e w2 ⟨rfl, hI2, hb2⟩
          go_wp2_with fail
          refine (hit_log B f (tagAt false 3) (turnAt 3) (k * 3 + 1 + 1) k _ HF.out hI2 (by omega) (tag3_2 _ _) (turn3_2 _)).mono ?_
          rintro e w3 ⟨rfl, hI3, hb3⟩
          go_wp2
          go_ret
          exact Or.inl ⟨k, hlt, HF.out.symm, rfl, by rw [show (k + 1) * 3 = k * 3 + 1 + 1 + 1 from by omega]; exact hI3, ((hb.trans hb1).trans hb2).trans hb3⟩
        · have HF : Hid ((k : Int) ≠ f) := hf
          clear hf
          go_wp2_with fail
          refine (ref_log B f (tagAt false 3) (turnAt 3) (k * 3) k _ hI (by omega) (tag3_0 _ _) (turn3_0 _)).mono ?_
          rintro e w1 ⟨rfl, hI1, hb1⟩
          go_wp2_with fail
          refine (octo_log B f (tagAt false 3) (turnAt 3) (k * 3 + 1) k _ hI1 (by omega) (tag3_1 _ _) (turn3_1 _)).mono ?_
          rintro e w2 ⟨rfl, hI2, hb2⟩
          go_wp2_with fail
          refine (miss_log B f (tagAt false 3) (turnAt 3) (k * 3 + 1 + 1) k _ HF.out hI2 (by omega) (tag3_2 _ _) (turn3_2 _)).mono ?_
          rintro e w3 ⟨rfl, hI3, hb3⟩
          go_wp2
          go_roundw
          case rel => exact ⟨k + 1, by omega, by go_num, by have := HO.out; have := HF.out; omega, by rw [show (k + 1) * 3 = k * 3 + 1 + 1 + 1 from by omega]; exact hI3, ((hb.trans hb1).trans hb2).trans hb3⟩
          case measure => simp [intOf]; omega
      · obtain rfl : k = 64 := by omega
        go_wp2
        go_ret
        exact Or.inr ⟨by have := HO.out; omega, rfl, hI, hb⟩
  · go_enter Try.func16, Try.ntmps16
    go_wp2
    go_loopw [19] (fun i wr => ∃ k : Nat, k ≤ 64 ∧ i = .int .i64 k ∧ (f < 0 ∨ (k : Int) ≤ f) ∧ LogInv B f (tagAt true 3) (turnAt 3) (k * 3) wr ∧ Below B w wr) (fun i _ => 64 - (intOf i).toNat)
    case atStart => exact ⟨0, Nat.zero_le _, rfl, by omega, h, Below.refl _ _⟩
    case round =>
      obtain ⟨k, hk, rfl, hno, hI, hb⟩ := hrel
      have HO : Hid (f < 0 ∨ (k : Int) ≤ f) := hno
      clear hno
      by_cases hlt : k < 64
      · by_cases hf : (k : Int) = f
        · have HF : Hid ((k : Int) = f) := hf
          clear hf
          go_wp2_with fail
          refine (octo_log B f (tagAt true 3) (turnAt 3) (k * 3) k _ hI (by omega) (tag3_0 _ _) (turn3_0 _)).mono ?_
          rintro e w1 ⟨rfl, hI1, hb1⟩
          go_wp2_with fail
          refine (ref_log B f (tagAt true 3) (turnAt 3) (k * 3 + 1) k _ hI1 (by omega) (tag3_1 _ _) (turn3_1 _)).mono ?_
          rintro e w2 ⟨rfl, hI2, hb2⟩
          go_wp2_with fail
          refine (hit_log B f (tagAt true 3) (turnAt 3) (k * 3 + 1 + 1) k _ HF.out hI2 (by omega) (tag3_2 _ _) (turn3_2 _)).mono ?_
          rintro e w3 ⟨rfl, hI3, hb3⟩
          go_wp2
          go_ret
          exact Or.inl ⟨k, hlt, HF.out.symm, rfl, by rw [show (k + 1) * 3 = k * 3 + 1 + 1 + 1 from by omega]; exact hI3, ((hb.trans hb1).trans hb2).trans hb3⟩
        · have HF : Hid ((k : Int) ≠ f) := hf
          clear hf
          go_wp2_with fail
          refine (octo_log B f (tagAt true 3) (turnAt 3) (k * 3) k _ hI (by omega) (tag3_0 _ _) (turn3_0 _)).mono ?_
          rintro e w1 ⟨rfl, hI1, hb1⟩
          go_wp2_with fail
          refine (ref_log B f (tagAt true 3) (turnAt 3) (k * 3 + 1) k _ hI1 (by omega) (tag3_1 _ _) (turn3_1 _)).mono ?_
          rintro e w2 ⟨rfl, hI2, hb2⟩
          go_wp2_with fail
          refine (miss_log B f (tagAt true 3) (turnAt 3) (k * 3 + 1 + 1) k _ HF.out hI2 (by omega) (tag3_2 _ _) (turn3_2 _)).mono ?_
          rintro e w3 ⟨rfl, hI3, hb3⟩
          go_wp2
          go_roundw
          case rel => exact ⟨k + 1, by omega, by go_num, by have := HO.out; have := HF.out; omega, by rw [show (k + 1) * 3 = k * 3 + 1 + 1 + 1 from by omega]; exact hI3, ((hb.trans hb1).trans hb2).trans hb3⟩
          case measure => simp [intOf]; omega
      · obtain rfl : k = 64 := by omega
        go_wp2
        go_ret
        exact Or.inr ⟨by have := HO.out; omega, rfl, hI, hb⟩

end Go.Proofs.Qxb6609130a
