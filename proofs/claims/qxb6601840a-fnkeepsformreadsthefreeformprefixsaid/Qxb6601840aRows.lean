/-
  No cell of these rows narrows 'for every input' (looked for: loops, veiled, ifaces, maps, wideKeys, modest, calm, conditions, laid).
  DERIVED. THE GIVEN ROWS OF THIS SEAT. 4 by the template 'for every input the law returns true; each argument reads behind the call as it read before'; 0 by the template 'total and deterministic' (their statements: Qxb6601840aTotals.lean).
  GIVEN WITH THE SEED: the statements are not yours to turn. If you find one false, say at which input.
  Laid BY PROGRAM, IN A SANDBOX (cutbox-rows.mjs): the forced cells as the released guide's own fill.sh prints them over the translation 847b7e11419087aa… (all of the seat's roots in one cut). By AI agents, Wed Nov 11 2026. No macro, syntax, notation, axiom, sorry.
-/
import Derived.Test.Qxb6601840aChecked
import GoSem.Claim
import GoSem.ClaimJoined
import GoSem.ClaimMapViews
import Derived.JoinedTies
import Derived.KernelRfl
namespace Go.Proofs.Qxb6601840a
/- THE CELL 'sum', in the pinned program and in every row, IS THE sha256 OF THE DUMP (.gsa) THAT Qxb6601840aProg.lean LOADS. Nothing in Lean hashes anything: it is a label: what it is worth is what the hold of that sum in a sandbox is worth. -/
noncomputable def Try.pinned : Pinned := { name := "qxb6601840a", sum := "847b7e11419087aad55090326194038cdf2958490769db58942ebfff196b506a", checked := Try.checked }
namespace Rows
def none {H : Type} : Left H := { results := [], args := [] }

/-- 'zzlaws_internal_openai_b1.FnKeepsFormReadsTheFreeFormPrefix': WHATEVER THE INPUT: true; the input reads as it did. -/
def fnKeepsFormReadsTheFreeFormPrefixSpec : ChangeSpec := { name := "fnKeepsFormReadsTheFreeFormPrefix", fn := fun _ => fun
  | [d] => { results := [.lit (.bool true)], args := [d] }
  | _ => none }
def fnKeepsFormReadsTheFreeFormPrefixRow : OpenClaim := { program := "qxb6601840a", sum := "847b7e11419087aad55090326194038cdf2958490769db58942ebfff196b506a", func := "example.com/triform/triform/zzlaws_internal_openai_b1.FnKeepsFormReadsTheFreeFormPrefix", spec := "fnKeepsFormReadsTheFreeFormPrefix", inPlace := ["internal/bytealg.IndexByteString"], apart := false }
def FnKeepsFormReadsTheFreeFormPrefixSaid : Prop := fnKeepsFormReadsTheFreeFormPrefixRow.holds Try.pinned (OpenSpec.ofChange fnKeepsFormReadsTheFreeFormPrefixSpec)

/-- ITS FALSE NEIGHBOUR: 'it returns false'. Refute it at one input. -/
def fnKeepsFormReadsTheFreeFormPrefixWrong : ChangeSpec := { name := "fnKeepsFormReadsTheFreeFormPrefix", fn := fun _ => fun
  | [d] => { results := [.lit (.bool false)], args := [d] }
  | _ => none }
def FnKeepsFormReadsTheFreeFormPrefixWrongFalsely : Prop := fnKeepsFormReadsTheFreeFormPrefixRow.holds Try.pinned (OpenSpec.ofChange fnKeepsFormReadsTheFreeFormPrefixWrong)

/-- 'zzlaws_internal_openai_b1.FnKeepsFormOnlyMovesForward': WHATEVER THE INPUT: true; the input reads as it did. -/
def fnKeepsFormOnlyMovesForwardSpec : ChangeSpec := { name := "fnKeepsFormOnlyMovesForward", fn := fun _ => fun
  | [d1, d2, d3] => { results := [.lit (.bool true)], args := [d1, d2, d3] }
  | _ => none }
def fnKeepsFormOnlyMovesForwardRow : OpenClaim := { program := "qxb6601840a", sum := "847b7e11419087aad55090326194038cdf2958490769db58942ebfff196b506a", func := "example.com/triform/triform/zzlaws_internal_openai_b1.FnKeepsFormOnlyMovesForward", spec := "fnKeepsFormOnlyMovesForward", inPlace := ["internal/bytealg.IndexByteString"], apart := false }
def FnKeepsFormOnlyMovesForwardSaid : Prop := fnKeepsFormOnlyMovesForwardRow.holds Try.pinned (OpenSpec.ofChange fnKeepsFormOnlyMovesForwardSpec)

/-- ITS FALSE NEIGHBOUR: 'it returns false'. Refute it at one input. -/
def fnKeepsFormOnlyMovesForwardWrong : ChangeSpec := { name := "fnKeepsFormOnlyMovesForward", fn := fun _ => fun
  | [d1, d2, d3] => { results := [.lit (.bool false)], args := [d1, d2, d3] }
  | _ => none }
def FnKeepsFormOnlyMovesForwardWrongFalsely : Prop := fnKeepsFormOnlyMovesForwardRow.holds Try.pinned (OpenSpec.ofChange fnKeepsFormOnlyMovesForwardWrong)

/-- 'zzlaws_internal_openai_b1.FnStopReasonInvertsFinishReason': WHATEVER THE INPUT: true; the input reads as it did. -/
def fnStopReasonInvertsFinishReasonSpec : ChangeSpec := { name := "fnStopReasonInvertsFinishReason", fn := fun _ => fun
  | [d] => { results := [.lit (.bool true)], args := [d] }
  | _ => none }
def fnStopReasonInvertsFinishReasonRow : OpenClaim := { program := "qxb6601840a", sum := "847b7e11419087aad55090326194038cdf2958490769db58942ebfff196b506a", func := "example.com/triform/triform/zzlaws_internal_openai_b1.FnStopReasonInvertsFinishReason", spec := "fnStopReasonInvertsFinishReason", apart := false }
def FnStopReasonInvertsFinishReasonSaid : Prop := fnStopReasonInvertsFinishReasonRow.holds Try.pinned (OpenSpec.ofChange fnStopReasonInvertsFinishReasonSpec)

/-- ITS FALSE NEIGHBOUR: 'it returns false'. Refute it at one input. -/
def fnStopReasonInvertsFinishReasonWrong : ChangeSpec := { name := "fnStopReasonInvertsFinishReason", fn := fun _ => fun
  | [d] => { results := [.lit (.bool false)], args := [d] }
  | _ => none }
def FnStopReasonInvertsFinishReasonWrongFalsely : Prop := fnStopReasonInvertsFinishReasonRow.holds Try.pinned (OpenSpec.ofChange fnStopReasonInvertsFinishReasonWrong)

/-- 'zzlaws_internal_openai_b1.FnStopReasonSurvivesTheWire': WHATEVER THE INPUT: true; the input reads as it did. -/
def fnStopReasonSurvivesTheWireSpec : ChangeSpec := { name := "fnStopReasonSurvivesTheWire", fn := fun _ => fun
  | [d1, d2] => { results := [.lit (.bool true)], args := [d1, d2] }
  | _ => none }
def fnStopReasonSurvivesTheWireRow : OpenClaim := { program := "qxb6601840a", sum := "847b7e11419087aad55090326194038cdf2958490769db58942ebfff196b506a", func := "example.com/triform/triform/zzlaws_internal_openai_b1.FnStopReasonSurvivesTheWire", spec := "fnStopReasonSurvivesTheWire", apart := false }
def FnStopReasonSurvivesTheWireSaid : Prop := fnStopReasonSurvivesTheWireRow.holds Try.pinned (OpenSpec.ofChange fnStopReasonSurvivesTheWireSpec)

/-- ITS FALSE NEIGHBOUR: 'it returns false'. Refute it at one input. -/
def fnStopReasonSurvivesTheWireWrong : ChangeSpec := { name := "fnStopReasonSurvivesTheWire", fn := fun _ => fun
  | [d1, d2] => { results := [.lit (.bool false)], args := [d1, d2] }
  | _ => none }
def FnStopReasonSurvivesTheWireWrongFalsely : Prop := fnStopReasonSurvivesTheWireRow.holds Try.pinned (OpenSpec.ofChange fnStopReasonSurvivesTheWireWrong)

end Rows
end Go.Proofs.Qxb6601840a
