/-
  No cell of these rows narrows 'for every input' (looked for: loops, veiled, ifaces, maps, wideKeys, modest, calm, conditions, laid).
  DERIVED. THE GIVEN ROWS OF THIS SEAT. 5 by the template 'for every input the law returns true; each argument reads behind the call as it read before'; 0 by the template 'total and deterministic' (their statements: Qxb6609130aTotals.lean).
  GIVEN WITH THE SEED: the statements are not yours to turn. If you find one false, say at which input.
  Laid BY PROGRAM, IN A SANDBOX (cutbox-rows.mjs): the forced cells as the released guide's own fill.sh prints them over the translation 52f1c9b9c5964637… (all of the seat's roots in one cut). By AI agents, Wed Nov 11 2026. No macro, syntax, notation, axiom, sorry.
-/
import Derived.Test.Qxb6609130aChecked
import GoSem.Claim
import GoSem.ClaimJoined
import GoSem.ClaimMapViews
import Derived.JoinedTies
import Derived.KernelRfl
namespace Go.Proofs.Qxb6609130a
/- THE CELL 'sum', in the pinned program and in every row, IS THE sha256 OF THE DUMP (.gsa) THAT Qxb6609130aProg.lean LOADS. Nothing in Lean hashes anything: it is a label: what it is worth is what the hold of that sum in a sandbox is worth. -/
noncomputable def Try.pinned : Pinned := { name := "qxb6609130a", sum := "52f1c9b9c596463742b28b74e4ff4b20509c458512c2424769388f41ca8428ac", checked := Try.checked }
namespace Rows
def none {H : Type} : Left H := { results := [], args := [] }

/-- 'zzlaws_internal_measure_b1.FnOctoFirstAlternatesEvenFirst': WHATEVER THE INPUT: true; the input reads as it did. -/
def fnOctoFirstAlternatesEvenFirstSpec : ChangeSpec := { name := "fnOctoFirstAlternatesEvenFirst", fn := fun _ => fun
  | [d] => { results := [.lit (.bool true)], args := [d] }
  | _ => none }
def fnOctoFirstAlternatesEvenFirstRow : OpenClaim := { program := "qxb6609130a", sum := "52f1c9b9c596463742b28b74e4ff4b20509c458512c2424769388f41ca8428ac", func := "example.com/octobucket/octobucket/zzlaws_internal_measure_b1.FnOctoFirstAlternatesEvenFirst", spec := "fnOctoFirstAlternatesEvenFirst", apart := false }
def FnOctoFirstAlternatesEvenFirstSaid : Prop := fnOctoFirstAlternatesEvenFirstRow.holds Try.pinned (OpenSpec.ofChange fnOctoFirstAlternatesEvenFirstSpec)

/-- ITS FALSE NEIGHBOUR: 'it returns false'. Refute it at one input. -/
def fnOctoFirstAlternatesEvenFirstWrong : ChangeSpec := { name := "fnOctoFirstAlternatesEvenFirst", fn := fun _ => fun
  | [d] => { results := [.lit (.bool false)], args := [d] }
  | _ => none }
def FnOctoFirstAlternatesEvenFirstWrongFalsely : Prop := fnOctoFirstAlternatesEvenFirstRow.holds Try.pinned (OpenSpec.ofChange fnOctoFirstAlternatesEvenFirstWrong)

/-- 'zzlaws_internal_measure_b1.FnOctoFirstFairOverRounds': WHATEVER THE INPUT: true; the input reads as it did. -/
def fnOctoFirstFairOverRoundsSpec : ChangeSpec := { name := "fnOctoFirstFairOverRounds", fn := fun _ => fun
  | [d1, d2] => { results := [.lit (.bool true)], args := [d1, d2] }
  | _ => none }
def fnOctoFirstFairOverRoundsRow : OpenClaim := { program := "qxb6609130a", sum := "52f1c9b9c596463742b28b74e4ff4b20509c458512c2424769388f41ca8428ac", func := "example.com/octobucket/octobucket/zzlaws_internal_measure_b1.FnOctoFirstFairOverRounds", spec := "fnOctoFirstFairOverRounds", apart := false }
def FnOctoFirstFairOverRoundsSaid : Prop := fnOctoFirstFairOverRoundsRow.holds Try.pinned (OpenSpec.ofChange fnOctoFirstFairOverRoundsSpec)

/-- ITS FALSE NEIGHBOUR: 'it returns false'. Refute it at one input. -/
def fnOctoFirstFairOverRoundsWrong : ChangeSpec := { name := "fnOctoFirstFairOverRounds", fn := fun _ => fun
  | [d1, d2] => { results := [.lit (.bool false)], args := [d1, d2] }
  | _ => none }
def FnOctoFirstFairOverRoundsWrongFalsely : Prop := fnOctoFirstFairOverRoundsRow.holds Try.pinned (OpenSpec.ofChange fnOctoFirstFairOverRoundsWrong)

/-- 'zzlaws_internal_measure_b1.FnTurnsCallOrder': WHATEVER THE INPUT: true; the input reads as it did. -/
def fnTurnsCallOrderSpec : ChangeSpec := { name := "fnTurnsCallOrder", fn := fun _ => fun
  | [d1, d2, d3] => { results := [.lit (.bool true)], args := [d1, d2, d3] }
  | _ => none }
def fnTurnsCallOrderRow : OpenClaim := { program := "qxb6609130a", sum := "52f1c9b9c596463742b28b74e4ff4b20509c458512c2424769388f41ca8428ac", func := "example.com/octobucket/octobucket/zzlaws_internal_measure_b1.FnTurnsCallOrder", spec := "fnTurnsCallOrder", unfollowed := true, recurses := true, apart := false }
def FnTurnsCallOrderSaid : Prop := fnTurnsCallOrderRow.holds Try.pinned (OpenSpec.ofChange fnTurnsCallOrderSpec)

/-- ITS FALSE NEIGHBOUR: 'it returns false'. Refute it at one input. -/
def fnTurnsCallOrderWrong : ChangeSpec := { name := "fnTurnsCallOrder", fn := fun _ => fun
  | [d1, d2, d3] => { results := [.lit (.bool false)], args := [d1, d2, d3] }
  | _ => none }
def FnTurnsCallOrderWrongFalsely : Prop := fnTurnsCallOrderRow.holds Try.pinned (OpenSpec.ofChange fnTurnsCallOrderWrong)

/-- 'zzlaws_internal_measure_b1.FnTurnsOrderFlagOnlySwapsMaps': WHATEVER THE INPUT: true; the input reads as it did. -/
def fnTurnsOrderFlagOnlySwapsMapsSpec : ChangeSpec := { name := "fnTurnsOrderFlagOnlySwapsMaps", fn := fun _ => fun
  | [d1, d2] => { results := [.lit (.bool true)], args := [d1, d2] }
  | _ => none }
def fnTurnsOrderFlagOnlySwapsMapsRow : OpenClaim := { program := "qxb6609130a", sum := "52f1c9b9c596463742b28b74e4ff4b20509c458512c2424769388f41ca8428ac", func := "example.com/octobucket/octobucket/zzlaws_internal_measure_b1.FnTurnsOrderFlagOnlySwapsMaps", spec := "fnTurnsOrderFlagOnlySwapsMaps", unfollowed := true, recurses := true, apart := false }
def FnTurnsOrderFlagOnlySwapsMapsSaid : Prop := fnTurnsOrderFlagOnlySwapsMapsRow.holds Try.pinned (OpenSpec.ofChange fnTurnsOrderFlagOnlySwapsMapsSpec)

/-- ITS FALSE NEIGHBOUR: 'it returns false'. Refute it at one input. -/
def fnTurnsOrderFlagOnlySwapsMapsWrong : ChangeSpec := { name := "fnTurnsOrderFlagOnlySwapsMaps", fn := fun _ => fun
  | [d1, d2] => { results := [.lit (.bool false)], args := [d1, d2] }
  | _ => none }
def FnTurnsOrderFlagOnlySwapsMapsWrongFalsely : Prop := fnTurnsOrderFlagOnlySwapsMapsRow.holds Try.pinned (OpenSpec.ofChange fnTurnsOrderFlagOnlySwapsMapsWrong)

/-- 'zzlaws_internal_measure_b1.FnHeapInUseCountsLiveBuffer': WHATEVER THE INPUT: true; the input reads as it did. -/
def fnHeapInUseCountsLiveBufferSpec : ChangeSpec := { name := "fnHeapInUseCountsLiveBuffer", fn := fun _ => fun
  | [d] => { results := [.lit (.bool true)], args := [d] }
  | _ => none }
def fnHeapInUseCountsLiveBufferRow : OpenClaim := { program := "qxb6609130a", sum := "52f1c9b9c596463742b28b74e4ff4b20509c458512c2424769388f41ca8428ac", func := "example.com/octobucket/octobucket/zzlaws_internal_measure_b1.FnHeapInUseCountsLiveBuffer", spec := "fnHeapInUseCountsLiveBuffer", inPlace := ["runtime.GC", "runtime.ReadMemStats"], unfollowed := true, recurses := true, apart := false }
def FnHeapInUseCountsLiveBufferSaid : Prop := fnHeapInUseCountsLiveBufferRow.holds Try.pinned (OpenSpec.ofChange fnHeapInUseCountsLiveBufferSpec)

/-- ITS FALSE NEIGHBOUR: 'it returns false'. Refute it at one input. -/
def fnHeapInUseCountsLiveBufferWrong : ChangeSpec := { name := "fnHeapInUseCountsLiveBuffer", fn := fun _ => fun
  | [d] => { results := [.lit (.bool false)], args := [d] }
  | _ => none }
def FnHeapInUseCountsLiveBufferWrongFalsely : Prop := fnHeapInUseCountsLiveBufferRow.holds Try.pinned (OpenSpec.ofChange fnHeapInUseCountsLiveBufferWrong)

end Rows
end Go.Proofs.Qxb6609130a
