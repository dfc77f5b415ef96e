/-
  No cell of these rows narrows 'for every input' (looked for: loops, veiled, ifaces, maps, wideKeys, modest, calm, conditions, laid).
  DERIVED. THE GIVEN ROWS OF THIS SEAT. 4 by the template 'for every input the law returns true; each argument reads behind the call as it read before'; 0 by the template 'total and deterministic' (their statements: Qxb6601723aTotals.lean).
  GIVEN WITH THE SEED: the statements are not yours to turn. If you find one false, say at which input.
  Laid BY PROGRAM, IN A SANDBOX (cutbox-rows.mjs): the forced cells as the released guide's own fill.sh prints them over the translation e7b2a073c66f1b66… (all of the seat's roots in one cut). By AI agents, Wed Nov 11 2026. No macro, syntax, notation, axiom, sorry.
-/
import Derived.Test.Qxb6601723aChecked
import GoSem.Claim
import GoSem.ClaimJoined
import GoSem.ClaimMapViews
import Derived.JoinedTies
import Derived.KernelRfl
namespace Go.Proofs.Qxb6601723a
/- THE CELL 'sum', in the pinned program and in every row, IS THE sha256 OF THE DUMP (.gsa) THAT Qxb6601723aProg.lean LOADS. Nothing in Lean hashes anything: it is a label: what it is worth is what the hold of that sum in a sandbox is worth. -/
noncomputable def Try.pinned : Pinned := { name := "qxb6601723a", sum := "e7b2a073c66f1b66235c061ac6cf9ee15a10d1b12d3e80d833140960b5477234", checked := Try.checked }
namespace Rows
def none {H : Type} : Left H := { results := [], args := [] }

/-- 'zzlaws_pkg_engine_b1.FnLadderReachedHoldsForAMoreAggressivePrice': WHATEVER THE INPUT: true; the input reads as it did. -/
def fnLadderReachedHoldsForAMoreAggressivePriceSpec : ChangeSpec := { name := "fnLadderReachedHoldsForAMoreAggressivePrice", fn := fun _ => fun
  | [d1, d2, d3, d4, d5] => { results := [.lit (.bool true)], args := [d1, d2, d3, d4, d5] }
  | _ => none }
def fnLadderReachedHoldsForAMoreAggressivePriceRow : OpenClaim := { program := "qxb6601723a", sum := "e7b2a073c66f1b66235c061ac6cf9ee15a10d1b12d3e80d833140960b5477234", func := "example.com/sidestep/sidestep/zzlaws_pkg_engine_b1.FnLadderReachedHoldsForAMoreAggressivePrice", spec := "fnLadderReachedHoldsForAMoreAggressivePrice", apart := false }
def FnLadderReachedHoldsForAMoreAggressivePriceSaid : Prop := fnLadderReachedHoldsForAMoreAggressivePriceRow.holds Try.pinned (OpenSpec.ofChange fnLadderReachedHoldsForAMoreAggressivePriceSpec)

/-- ITS FALSE NEIGHBOUR: 'it returns false'. Refute it at one input. -/
def fnLadderReachedHoldsForAMoreAggressivePriceWrong : ChangeSpec := { name := "fnLadderReachedHoldsForAMoreAggressivePrice", fn := fun _ => fun
  | [d1, d2, d3, d4, d5] => { results := [.lit (.bool false)], args := [d1, d2, d3, d4, d5] }
  | _ => none }
def FnLadderReachedHoldsForAMoreAggressivePriceWrongFalsely : Prop := fnLadderReachedHoldsForAMoreAggressivePriceRow.holds Try.pinned (OpenSpec.ofChange fnLadderReachedHoldsForAMoreAggressivePriceWrong)

/-- 'zzlaws_pkg_engine_b1.FnLevelRemoveTakesOutOneOrderAndKeepsTheRest': WHATEVER THE INPUT: true; the input reads as it did. -/
def fnLevelRemoveTakesOutOneOrderAndKeepsTheRestSpec : ChangeSpec := { name := "fnLevelRemoveTakesOutOneOrderAndKeepsTheRest", fn := fun _ => fun
  | [d1, d2, d3] => { results := [.lit (.bool true)], args := [d1, d2, d3] }
  | _ => none }
def fnLevelRemoveTakesOutOneOrderAndKeepsTheRestRow : OpenClaim := { program := "qxb6601723a", sum := "e7b2a073c66f1b66235c061ac6cf9ee15a10d1b12d3e80d833140960b5477234", func := "example.com/sidestep/sidestep/zzlaws_pkg_engine_b1.FnLevelRemoveTakesOutOneOrderAndKeepsTheRest", spec := "fnLevelRemoveTakesOutOneOrderAndKeepsTheRest", apart := false }
def FnLevelRemoveTakesOutOneOrderAndKeepsTheRestSaid : Prop := fnLevelRemoveTakesOutOneOrderAndKeepsTheRestRow.holds Try.pinned (OpenSpec.ofChange fnLevelRemoveTakesOutOneOrderAndKeepsTheRestSpec)

/-- ITS FALSE NEIGHBOUR: 'it returns false'. Refute it at one input. -/
def fnLevelRemoveTakesOutOneOrderAndKeepsTheRestWrong : ChangeSpec := { name := "fnLevelRemoveTakesOutOneOrderAndKeepsTheRest", fn := fun _ => fun
  | [d1, d2, d3] => { results := [.lit (.bool false)], args := [d1, d2, d3] }
  | _ => none }
def FnLevelRemoveTakesOutOneOrderAndKeepsTheRestWrongFalsely : Prop := fnLevelRemoveTakesOutOneOrderAndKeepsTheRestRow.holds Try.pinned (OpenSpec.ofChange fnLevelRemoveTakesOutOneOrderAndKeepsTheRestWrong)

/-- 'zzlaws_pkg_engine_b1.FnLevelRemoveScriptKeepsTheQueueInOrder': WHATEVER THE INPUT: true; the input reads as it did. -/
def fnLevelRemoveScriptKeepsTheQueueInOrderSpec : ChangeSpec := { name := "fnLevelRemoveScriptKeepsTheQueueInOrder", fn := fun _ => fun
  | [d1, d2] => { results := [.lit (.bool true)], args := [d1, d2] }
  | _ => none }
def fnLevelRemoveScriptKeepsTheQueueInOrderRow : OpenClaim := { program := "qxb6601723a", sum := "e7b2a073c66f1b66235c061ac6cf9ee15a10d1b12d3e80d833140960b5477234", func := "example.com/sidestep/sidestep/zzlaws_pkg_engine_b1.FnLevelRemoveScriptKeepsTheQueueInOrder", spec := "fnLevelRemoveScriptKeepsTheQueueInOrder", apart := false }
def FnLevelRemoveScriptKeepsTheQueueInOrderSaid : Prop := fnLevelRemoveScriptKeepsTheQueueInOrderRow.holds Try.pinned (OpenSpec.ofChange fnLevelRemoveScriptKeepsTheQueueInOrderSpec)

/-- ITS FALSE NEIGHBOUR: 'it returns false'. Refute it at one input. -/
def fnLevelRemoveScriptKeepsTheQueueInOrderWrong : ChangeSpec := { name := "fnLevelRemoveScriptKeepsTheQueueInOrder", fn := fun _ => fun
  | [d1, d2] => { results := [.lit (.bool false)], args := [d1, d2] }
  | _ => none }
def FnLevelRemoveScriptKeepsTheQueueInOrderWrongFalsely : Prop := fnLevelRemoveScriptKeepsTheQueueInOrderRow.holds Try.pinned (OpenSpec.ofChange fnLevelRemoveScriptKeepsTheQueueInOrderWrong)

/-- 'zzlaws_pkg_engine_b1.FnOrderLoseTwiceEqualsLosingTheSumOnce': WHATEVER THE INPUT: true; the input reads as it did. -/
def fnOrderLoseTwiceEqualsLosingTheSumOnceSpec : ChangeSpec := { name := "fnOrderLoseTwiceEqualsLosingTheSumOnce", fn := fun _ => fun
  | [d1, d2, d3, d4, d5, d6, d7] => { results := [.lit (.bool true)], args := [d1, d2, d3, d4, d5, d6, d7] }
  | _ => none }
def fnOrderLoseTwiceEqualsLosingTheSumOnceRow : OpenClaim := { program := "qxb6601723a", sum := "e7b2a073c66f1b66235c061ac6cf9ee15a10d1b12d3e80d833140960b5477234", func := "example.com/sidestep/sidestep/zzlaws_pkg_engine_b1.FnOrderLoseTwiceEqualsLosingTheSumOnce", spec := "fnOrderLoseTwiceEqualsLosingTheSumOnce", apart := false }
def FnOrderLoseTwiceEqualsLosingTheSumOnceSaid : Prop := fnOrderLoseTwiceEqualsLosingTheSumOnceRow.holds Try.pinned (OpenSpec.ofChange fnOrderLoseTwiceEqualsLosingTheSumOnceSpec)

/-- ITS FALSE NEIGHBOUR: 'it returns false'. Refute it at one input. -/
def fnOrderLoseTwiceEqualsLosingTheSumOnceWrong : ChangeSpec := { name := "fnOrderLoseTwiceEqualsLosingTheSumOnce", fn := fun _ => fun
  | [d1, d2, d3, d4, d5, d6, d7] => { results := [.lit (.bool false)], args := [d1, d2, d3, d4, d5, d6, d7] }
  | _ => none }
def FnOrderLoseTwiceEqualsLosingTheSumOnceWrongFalsely : Prop := fnOrderLoseTwiceEqualsLosingTheSumOnceRow.holds Try.pinned (OpenSpec.ofChange fnOrderLoseTwiceEqualsLosingTheSumOnceWrong)

end Rows
end Go.Proofs.Qxb6601723a
