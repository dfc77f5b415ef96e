/-
  No cell of these rows narrows 'for every input' (looked for: loops, veiled, ifaces, maps, wideKeys, modest, calm, conditions, laid).
  DERIVED. THE GIVEN ROWS OF THIS SEAT. 6 by the template 'for every input the law returns true; each argument reads behind the call as it read before'; 0 by the template 'total and deterministic' (their statements: Qxb6601770aTotals.lean).
  GIVEN WITH THE SEED: the statements are not yours to turn. If you find one false, say at which input.
  Laid BY PROGRAM, IN A SANDBOX (cutbox-rows.mjs): the forced cells as the released guide's own fill.sh prints them over the translation b9fa981b88b9b825… (all of the seat's roots in one cut). By AI agents, Wed Nov 11 2026. No macro, syntax, notation, axiom, sorry.
-/
import Derived.Test.Qxb6601770aChecked
import GoSem.Claim
import GoSem.ClaimJoined
import GoSem.ClaimMapViews
import Derived.JoinedTies
import Derived.KernelRfl
namespace Go.Proofs.Qxb6601770a
/- THE CELL 'sum', in the pinned program and in every row, IS THE sha256 OF THE DUMP (.gsa) THAT Qxb6601770aProg.lean LOADS. Nothing in Lean hashes anything: it is a label: what it is worth is what the hold of that sum in a sandbox is worth. -/
noncomputable def Try.pinned : Pinned := { name := "qxb6601770a", sum := "b9fa981b88b9b825db1690c132259d8db8f8dddddc7e047fbc1061d4f356936d", checked := Try.checked }
namespace Rows
def none {H : Type} : Left H := { results := [], args := [] }

/-- 'zzlaws_internal_certs_b1.FnEndMatchesLengthTable': WHATEVER THE INPUT: true; the input reads as it did. -/
def fnEndMatchesLengthTableSpec : ChangeSpec := { name := "fnEndMatchesLengthTable", fn := fun _ => fun
  | [d1, d2] => { results := [.lit (.bool true)], args := [d1, d2] }
  | _ => none }
def fnEndMatchesLengthTableRow : OpenClaim := { program := "qxb6601770a", sum := "b9fa981b88b9b825db1690c132259d8db8f8dddddc7e047fbc1061d4f356936d", func := "example.com/understory/understory/zzlaws_internal_certs_b1.FnEndMatchesLengthTable", spec := "fnEndMatchesLengthTable", apart := false }
def FnEndMatchesLengthTableSaid : Prop := fnEndMatchesLengthTableRow.holds Try.pinned (OpenSpec.ofChange fnEndMatchesLengthTableSpec)

/-- ITS FALSE NEIGHBOUR: 'it returns false'. Refute it at one input. -/
def fnEndMatchesLengthTableWrong : ChangeSpec := { name := "fnEndMatchesLengthTable", fn := fun _ => fun
  | [d1, d2] => { results := [.lit (.bool false)], args := [d1, d2] }
  | _ => none }
def FnEndMatchesLengthTableWrongFalsely : Prop := fnEndMatchesLengthTableRow.holds Try.pinned (OpenSpec.ofChange fnEndMatchesLengthTableWrong)

/-- 'zzlaws_internal_certs_b1.FnEndStrictReaderRecovers': WHATEVER THE INPUT: true; the input reads as it did. -/
def fnEndStrictReaderRecoversSpec : ChangeSpec := { name := "fnEndStrictReaderRecovers", fn := fun _ => fun
  | [d1, d2] => { results := [.lit (.bool true)], args := [d1, d2] }
  | _ => none }
def fnEndStrictReaderRecoversRow : OpenClaim := { program := "qxb6601770a", sum := "b9fa981b88b9b825db1690c132259d8db8f8dddddc7e047fbc1061d4f356936d", func := "example.com/understory/understory/zzlaws_internal_certs_b1.FnEndStrictReaderRecovers", spec := "fnEndStrictReaderRecovers", apart := false }
def FnEndStrictReaderRecoversSaid : Prop := fnEndStrictReaderRecoversRow.holds Try.pinned (OpenSpec.ofChange fnEndStrictReaderRecoversSpec)

/-- ITS FALSE NEIGHBOUR: 'it returns false'. Refute it at one input. -/
def fnEndStrictReaderRecoversWrong : ChangeSpec := { name := "fnEndStrictReaderRecovers", fn := fun _ => fun
  | [d1, d2] => { results := [.lit (.bool false)], args := [d1, d2] }
  | _ => none }
def FnEndStrictReaderRecoversWrongFalsely : Prop := fnEndStrictReaderRecoversRow.holds Try.pinned (OpenSpec.ofChange fnEndStrictReaderRecoversWrong)

/-- 'zzlaws_internal_certs_b1.FnAddStringMatchesTLV': WHATEVER THE INPUT: true; the input reads as it did. -/
def fnAddStringMatchesTLVSpec : ChangeSpec := { name := "fnAddStringMatchesTLV", fn := fun _ => fun
  | [d1, d2, d3] => { results := [.lit (.bool true)], args := [d1, d2, d3] }
  | _ => none }
def fnAddStringMatchesTLVRow : OpenClaim := { program := "qxb6601770a", sum := "b9fa981b88b9b825db1690c132259d8db8f8dddddc7e047fbc1061d4f356936d", func := "example.com/understory/understory/zzlaws_internal_certs_b1.FnAddStringMatchesTLV", spec := "fnAddStringMatchesTLV", apart := false }
def FnAddStringMatchesTLVSaid : Prop := fnAddStringMatchesTLVRow.holds Try.pinned (OpenSpec.ofChange fnAddStringMatchesTLVSpec)

/-- ITS FALSE NEIGHBOUR: 'it returns false'. Refute it at one input. -/
def fnAddStringMatchesTLVWrong : ChangeSpec := { name := "fnAddStringMatchesTLV", fn := fun _ => fun
  | [d1, d2, d3] => { results := [.lit (.bool false)], args := [d1, d2, d3] }
  | _ => none }
def FnAddStringMatchesTLVWrongFalsely : Prop := fnAddStringMatchesTLVRow.holds Try.pinned (OpenSpec.ofChange fnAddStringMatchesTLVWrong)

/-- 'zzlaws_internal_certs_b1.FnAddStringStrictReaderRecovers': WHATEVER THE INPUT: true; the input reads as it did. -/
def fnAddStringStrictReaderRecoversSpec : ChangeSpec := { name := "fnAddStringStrictReaderRecovers", fn := fun _ => fun
  | [d1, d2, d3] => { results := [.lit (.bool true)], args := [d1, d2, d3] }
  | _ => none }
def fnAddStringStrictReaderRecoversRow : OpenClaim := { program := "qxb6601770a", sum := "b9fa981b88b9b825db1690c132259d8db8f8dddddc7e047fbc1061d4f356936d", func := "example.com/understory/understory/zzlaws_internal_certs_b1.FnAddStringStrictReaderRecovers", spec := "fnAddStringStrictReaderRecovers", apart := false }
def FnAddStringStrictReaderRecoversSaid : Prop := fnAddStringStrictReaderRecoversRow.holds Try.pinned (OpenSpec.ofChange fnAddStringStrictReaderRecoversSpec)

/-- ITS FALSE NEIGHBOUR: 'it returns false'. Refute it at one input. -/
def fnAddStringStrictReaderRecoversWrong : ChangeSpec := { name := "fnAddStringStrictReaderRecovers", fn := fun _ => fun
  | [d1, d2, d3] => { results := [.lit (.bool false)], args := [d1, d2, d3] }
  | _ => none }
def FnAddStringStrictReaderRecoversWrongFalsely : Prop := fnAddStringStrictReaderRecoversRow.holds Try.pinned (OpenSpec.ofChange fnAddStringStrictReaderRecoversWrong)

/-- 'zzlaws_internal_certs_b1.FnAddStringIgnoresWhatPrecedes': WHATEVER THE INPUT: true; the input reads as it did. -/
def fnAddStringIgnoresWhatPrecedesSpec : ChangeSpec := { name := "fnAddStringIgnoresWhatPrecedes", fn := fun _ => fun
  | [d1, d2, d3] => { results := [.lit (.bool true)], args := [d1, d2, d3] }
  | _ => none }
def fnAddStringIgnoresWhatPrecedesRow : OpenClaim := { program := "qxb6601770a", sum := "b9fa981b88b9b825db1690c132259d8db8f8dddddc7e047fbc1061d4f356936d", func := "example.com/understory/understory/zzlaws_internal_certs_b1.FnAddStringIgnoresWhatPrecedes", spec := "fnAddStringIgnoresWhatPrecedes", apart := false }
def FnAddStringIgnoresWhatPrecedesSaid : Prop := fnAddStringIgnoresWhatPrecedesRow.holds Try.pinned (OpenSpec.ofChange fnAddStringIgnoresWhatPrecedesSpec)

/-- ITS FALSE NEIGHBOUR: 'it returns false'. Refute it at one input. -/
def fnAddStringIgnoresWhatPrecedesWrong : ChangeSpec := { name := "fnAddStringIgnoresWhatPrecedes", fn := fun _ => fun
  | [d1, d2, d3] => { results := [.lit (.bool false)], args := [d1, d2, d3] }
  | _ => none }
def FnAddStringIgnoresWhatPrecedesWrongFalsely : Prop := fnAddStringIgnoresWhatPrecedesRow.holds Try.pinned (OpenSpec.ofChange fnAddStringIgnoresWhatPrecedesWrong)

/-- 'zzlaws_internal_certs_b1.FnBeginExtensionClosedIsExtensionTLV': WHATEVER THE INPUT: true; the input reads as it did. -/
def fnBeginExtensionClosedIsExtensionTLVSpec : ChangeSpec := { name := "fnBeginExtensionClosedIsExtensionTLV", fn := fun _ => fun
  | [d1, d2, d3, d4] => { results := [.lit (.bool true)], args := [d1, d2, d3, d4] }
  | _ => none }
def fnBeginExtensionClosedIsExtensionTLVRow : OpenClaim := { program := "qxb6601770a", sum := "b9fa981b88b9b825db1690c132259d8db8f8dddddc7e047fbc1061d4f356936d", func := "example.com/understory/understory/zzlaws_internal_certs_b1.FnBeginExtensionClosedIsExtensionTLV", spec := "fnBeginExtensionClosedIsExtensionTLV", apart := false }
def FnBeginExtensionClosedIsExtensionTLVSaid : Prop := fnBeginExtensionClosedIsExtensionTLVRow.holds Try.pinned (OpenSpec.ofChange fnBeginExtensionClosedIsExtensionTLVSpec)

/-- ITS FALSE NEIGHBOUR: 'it returns false'. Refute it at one input. -/
def fnBeginExtensionClosedIsExtensionTLVWrong : ChangeSpec := { name := "fnBeginExtensionClosedIsExtensionTLV", fn := fun _ => fun
  | [d1, d2, d3, d4] => { results := [.lit (.bool false)], args := [d1, d2, d3, d4] }
  | _ => none }
def FnBeginExtensionClosedIsExtensionTLVWrongFalsely : Prop := fnBeginExtensionClosedIsExtensionTLVRow.holds Try.pinned (OpenSpec.ofChange fnBeginExtensionClosedIsExtensionTLVWrong)

end Rows
end Go.Proofs.Qxb6601770a
