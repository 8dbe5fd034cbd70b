/-
  No cell of these rows narrows 'for every input' (looked for: loops, veiled, ifaces, maps, wideKeys, modest, calm, conditions, laid).
  DERIVED. THE GIVEN ROWS OF THIS SEAT. 4 by the template 'for every input the law returns true; each argument reads behind the call as it read before'; 0 by the template 'total and deterministic' (their statements: Qxb6608978aTotals.lean).
  GIVEN WITH THE SEED: the statements are not yours to turn. If you find one false, say at which input.
  Laid BY PROGRAM, IN A SANDBOX (cutbox-rows.mjs): the forced cells as the released guide's own fill.sh prints them over the translation 95864aa7b7062207… (all of the seat's roots in one cut). By AI agents, Wed Nov 11 2026. No macro, syntax, notation, axiom, sorry.
-/
import Derived.Test.Qxb6608978aChecked
import GoSem.Claim
import GoSem.ClaimJoined
import GoSem.ClaimMapViews
import Derived.JoinedTies
import Derived.KernelRfl
namespace Go.Proofs.Qxb6608978a
/- THE CELL 'sum', in the pinned program and in every row, IS THE sha256 OF THE DUMP (.gsa) THAT Qxb6608978aProg.lean LOADS. Nothing in Lean hashes anything: it is a label: what it is worth is what the hold of that sum in a sandbox is worth. -/
noncomputable def Try.pinned : Pinned := { name := "qxb6608978a", sum := "95864aa7b7062207816e35ba401fc93b83e0794d6a102b8b614786f7a7136d84", checked := Try.checked }
namespace Rows
def none {H : Type} : Left H := { results := [], args := [] }

/-- 'zzlaws_internal_expander_b1.FnIsIndicatorOfAndAndNot': WHATEVER THE INPUT: true; the input reads as it did. -/
def fnIsIndicatorOfAndAndNotSpec : ChangeSpec := { name := "fnIsIndicatorOfAndAndNot", fn := fun _ => fun
  | [d1, d2] => { results := [.lit (.bool true)], args := [d1, d2] }
  | _ => none }
def fnIsIndicatorOfAndAndNotRow : OpenClaim := { program := "qxb6608978a", sum := "95864aa7b7062207816e35ba401fc93b83e0794d6a102b8b614786f7a7136d84", func := "example.com/quorumcast/quorumcast/zzlaws_internal_expander_b1.FnIsIndicatorOfAndAndNot", spec := "fnIsIndicatorOfAndAndNot", apart := false }
def FnIsIndicatorOfAndAndNotSaid : Prop := fnIsIndicatorOfAndAndNotRow.holds Try.pinned (OpenSpec.ofChange fnIsIndicatorOfAndAndNotSpec)

/-- ITS FALSE NEIGHBOUR: 'it returns false'. Refute it at one input. -/
def fnIsIndicatorOfAndAndNotWrong : ChangeSpec := { name := "fnIsIndicatorOfAndAndNot", fn := fun _ => fun
  | [d1, d2] => { results := [.lit (.bool false)], args := [d1, d2] }
  | _ => none }
def FnIsIndicatorOfAndAndNotWrongFalsely : Prop := fnIsIndicatorOfAndAndNotRow.holds Try.pinned (OpenSpec.ofChange fnIsIndicatorOfAndAndNotWrong)

/-- 'zzlaws_internal_expander_b1.FnIsOrderEmbedding': WHATEVER THE INPUT: true; the input reads as it did. -/
def fnIsOrderEmbeddingSpec : ChangeSpec := { name := "fnIsOrderEmbedding", fn := fun _ => fun
  | [d1, d2] => { results := [.lit (.bool true)], args := [d1, d2] }
  | _ => none }
def fnIsOrderEmbeddingRow : OpenClaim := { program := "qxb6608978a", sum := "95864aa7b7062207816e35ba401fc93b83e0794d6a102b8b614786f7a7136d84", func := "example.com/quorumcast/quorumcast/zzlaws_internal_expander_b1.FnIsOrderEmbedding", spec := "fnIsOrderEmbedding", apart := false }
def FnIsOrderEmbeddingSaid : Prop := fnIsOrderEmbeddingRow.holds Try.pinned (OpenSpec.ofChange fnIsOrderEmbeddingSpec)

/-- ITS FALSE NEIGHBOUR: 'it returns false'. Refute it at one input. -/
def fnIsOrderEmbeddingWrong : ChangeSpec := { name := "fnIsOrderEmbedding", fn := fun _ => fun
  | [d1, d2] => { results := [.lit (.bool false)], args := [d1, d2] }
  | _ => none }
def FnIsOrderEmbeddingWrongFalsely : Prop := fnIsOrderEmbeddingRow.holds Try.pinned (OpenSpec.ofChange fnIsOrderEmbeddingWrong)

/-- 'zzlaws_internal_expander_b1.FnNewAdjacencyIsTightAndEmpty': WHATEVER THE INPUT: true; the input reads as it did. -/
def fnNewAdjacencyIsTightAndEmptySpec : ChangeSpec := { name := "fnNewAdjacencyIsTightAndEmpty", fn := fun _ => fun
  | [d] => { results := [.lit (.bool true)], args := [d] }
  | _ => none }
def fnNewAdjacencyIsTightAndEmptyRow : OpenClaim := { program := "qxb6608978a", sum := "95864aa7b7062207816e35ba401fc93b83e0794d6a102b8b614786f7a7136d84", func := "example.com/quorumcast/quorumcast/zzlaws_internal_expander_b1.FnNewAdjacencyIsTightAndEmpty", spec := "fnNewAdjacencyIsTightAndEmpty", apart := false }
def FnNewAdjacencyIsTightAndEmptySaid : Prop := fnNewAdjacencyIsTightAndEmptyRow.holds Try.pinned (OpenSpec.ofChange fnNewAdjacencyIsTightAndEmptySpec)

/-- ITS FALSE NEIGHBOUR: 'it returns false'. Refute it at one input. -/
def fnNewAdjacencyIsTightAndEmptyWrong : ChangeSpec := { name := "fnNewAdjacencyIsTightAndEmpty", fn := fun _ => fun
  | [d] => { results := [.lit (.bool false)], args := [d] }
  | _ => none }
def FnNewAdjacencyIsTightAndEmptyWrongFalsely : Prop := fnNewAdjacencyIsTightAndEmptyRow.holds Try.pinned (OpenSpec.ofChange fnNewAdjacencyIsTightAndEmptyWrong)

/-- 'zzlaws_internal_expander_b1.FnNewAdjacencyGrowsWithSquare': WHATEVER THE INPUT: true; the input reads as it did. -/
def fnNewAdjacencyGrowsWithSquareSpec : ChangeSpec := { name := "fnNewAdjacencyGrowsWithSquare", fn := fun _ => fun
  | [d1, d2] => { results := [.lit (.bool true)], args := [d1, d2] }
  | _ => none }
def fnNewAdjacencyGrowsWithSquareRow : OpenClaim := { program := "qxb6608978a", sum := "95864aa7b7062207816e35ba401fc93b83e0794d6a102b8b614786f7a7136d84", func := "example.com/quorumcast/quorumcast/zzlaws_internal_expander_b1.FnNewAdjacencyGrowsWithSquare", spec := "fnNewAdjacencyGrowsWithSquare", apart := false }
def FnNewAdjacencyGrowsWithSquareSaid : Prop := fnNewAdjacencyGrowsWithSquareRow.holds Try.pinned (OpenSpec.ofChange fnNewAdjacencyGrowsWithSquareSpec)

/-- ITS FALSE NEIGHBOUR: 'it returns false'. Refute it at one input. -/
def fnNewAdjacencyGrowsWithSquareWrong : ChangeSpec := { name := "fnNewAdjacencyGrowsWithSquare", fn := fun _ => fun
  | [d1, d2] => { results := [.lit (.bool false)], args := [d1, d2] }
  | _ => none }
def FnNewAdjacencyGrowsWithSquareWrongFalsely : Prop := fnNewAdjacencyGrowsWithSquareRow.holds Try.pinned (OpenSpec.ofChange fnNewAdjacencyGrowsWithSquareWrong)

end Rows
end Go.Proofs.Qxb6608978a
