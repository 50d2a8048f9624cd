/-
  No cell of these rows narrows 'for every input' (looked for: loops, veiled, ifaces, maps, wideKeys, modest, calm, conditions, laid).
  DERIVED. THE GIVEN ROWS OF THIS SEAT. 3 by the template 'for every input the law returns true; each argument reads behind the call as it read before'; 0 by the template 'total and deterministic' (their statements: Qxb6601675aTotals.lean).
  GIVEN WITH THE SEED: the statements are not yours to turn. If you find one false, say at which input.
  Laid BY PROGRAM, IN A SANDBOX (cutbox-rows.mjs): the forced cells as the released guide's own fill.sh prints them over the translation 0cbb9c1c4e2e4c82… (all of the seat's roots in one cut). By AI agents, Wed Nov 11 2026. No macro, syntax, notation, axiom, sorry.
-/
import Derived.Test.Qxb6601675aChecked
import GoSem.Claim
import GoSem.ClaimJoined
import GoSem.ClaimMapViews
import Derived.JoinedTies
import Derived.KernelRfl
namespace Go.Proofs.Qxb6601675a
/- THE CELL 'sum', in the pinned program and in every row, IS THE sha256 OF THE DUMP (.gsa) THAT Qxb6601675aProg.lean LOADS. Nothing in Lean hashes anything: it is a label: what it is worth is what the hold of that sum in a sandbox is worth. -/
noncomputable def Try.pinned : Pinned := { name := "qxb6601675a", sum := "0cbb9c1c4e2e4c82bd80ec30352d0253c216795cfe4cd3696dc1900aef310c63", checked := Try.checked }
namespace Rows
def none {H : Type} : Left H := { results := [], args := [] }

/-- 'zzlaws_internal_epp_b1.FnPseudoAttributeSound': WHATEVER THE INPUT: true; the input reads as it did. -/
def fnPseudoAttributeSoundSpec : ChangeSpec := { name := "fnPseudoAttributeSound", fn := fun _ => fun
  | [d1, d2, d3] => { results := [.lit (.bool true)], args := [d1, d2, d3] }
  | _ => none }
def fnPseudoAttributeSoundRow : OpenClaim := { program := "qxb6601675a", sum := "0cbb9c1c4e2e4c82bd80ec30352d0253c216795cfe4cd3696dc1900aef310c63", func := "example.com/reprieve/reprieve/zzlaws_internal_epp_b1.FnPseudoAttributeSound", spec := "fnPseudoAttributeSound", inPlace := ["internal/bytealg.IndexByteString", "internal/bytealg.IndexString"], unfollowed := true, recurses := true, named := ["internal/bytealg.MaxLen"], apart := false }
def FnPseudoAttributeSoundSaid : Prop := fnPseudoAttributeSoundRow.holds Try.pinned (OpenSpec.ofChange fnPseudoAttributeSoundSpec)

/-- ITS FALSE NEIGHBOUR: 'it returns false'. Refute it at one input. -/
def fnPseudoAttributeSoundWrong : ChangeSpec := { name := "fnPseudoAttributeSound", fn := fun _ => fun
  | [d1, d2, d3] => { results := [.lit (.bool false)], args := [d1, d2, d3] }
  | _ => none }
def FnPseudoAttributeSoundWrongFalsely : Prop := fnPseudoAttributeSoundRow.holds Try.pinned (OpenSpec.ofChange fnPseudoAttributeSoundWrong)

/-- 'zzlaws_internal_epp_b1.FnPseudoAttributeSpacedAgreement': WHATEVER THE INPUT: true; the input reads as it did. -/
def fnPseudoAttributeSpacedAgreementSpec : ChangeSpec := { name := "fnPseudoAttributeSpacedAgreement", fn := fun _ => fun
  | [d1, d2] => { results := [.lit (.bool true)], args := [d1, d2] }
  | _ => none }
def fnPseudoAttributeSpacedAgreementRow : OpenClaim := { program := "qxb6601675a", sum := "0cbb9c1c4e2e4c82bd80ec30352d0253c216795cfe4cd3696dc1900aef310c63", func := "example.com/reprieve/reprieve/zzlaws_internal_epp_b1.FnPseudoAttributeSpacedAgreement", spec := "fnPseudoAttributeSpacedAgreement", inPlace := ["internal/bytealg.IndexByteString", "internal/bytealg.IndexString"], unfollowed := true, recurses := true, named := ["internal/bytealg.MaxLen"], apart := false }
def FnPseudoAttributeSpacedAgreementSaid : Prop := fnPseudoAttributeSpacedAgreementRow.holds Try.pinned (OpenSpec.ofChange fnPseudoAttributeSpacedAgreementSpec)

/-- ITS FALSE NEIGHBOUR: 'it returns false'. Refute it at one input. -/
def fnPseudoAttributeSpacedAgreementWrong : ChangeSpec := { name := "fnPseudoAttributeSpacedAgreement", fn := fun _ => fun
  | [d1, d2] => { results := [.lit (.bool false)], args := [d1, d2] }
  | _ => none }
def FnPseudoAttributeSpacedAgreementWrongFalsely : Prop := fnPseudoAttributeSpacedAgreementRow.holds Try.pinned (OpenSpec.ofChange fnPseudoAttributeSpacedAgreementWrong)

/-- 'zzlaws_internal_epp_b1.FnPseudoAttributeReadsWhatIsWritten': WHATEVER THE INPUT: true; the input reads as it did. -/
def fnPseudoAttributeReadsWhatIsWrittenSpec : ChangeSpec := { name := "fnPseudoAttributeReadsWhatIsWritten", fn := fun _ => fun
  | [d1, d2, d3, d4, d5, d6, d7, d8] => { results := [.lit (.bool true)], args := [d1, d2, d3, d4, d5, d6, d7, d8] }
  | _ => none }
def fnPseudoAttributeReadsWhatIsWrittenRow : OpenClaim := { program := "qxb6601675a", sum := "0cbb9c1c4e2e4c82bd80ec30352d0253c216795cfe4cd3696dc1900aef310c63", func := "example.com/reprieve/reprieve/zzlaws_internal_epp_b1.FnPseudoAttributeReadsWhatIsWritten", spec := "fnPseudoAttributeReadsWhatIsWritten", inPlace := ["internal/bytealg.IndexByteString", "internal/bytealg.IndexString"], unfollowed := true, recurses := true, named := ["internal/bytealg.MaxLen"], apart := false }
def FnPseudoAttributeReadsWhatIsWrittenSaid : Prop := fnPseudoAttributeReadsWhatIsWrittenRow.holds Try.pinned (OpenSpec.ofChange fnPseudoAttributeReadsWhatIsWrittenSpec)

/-- ITS FALSE NEIGHBOUR: 'it returns false'. Refute it at one input. -/
def fnPseudoAttributeReadsWhatIsWrittenWrong : ChangeSpec := { name := "fnPseudoAttributeReadsWhatIsWritten", fn := fun _ => fun
  | [d1, d2, d3, d4, d5, d6, d7, d8] => { results := [.lit (.bool false)], args := [d1, d2, d3, d4, d5, d6, d7, d8] }
  | _ => none }
def FnPseudoAttributeReadsWhatIsWrittenWrongFalsely : Prop := fnPseudoAttributeReadsWhatIsWrittenRow.holds Try.pinned (OpenSpec.ofChange fnPseudoAttributeReadsWhatIsWrittenWrong)

end Rows
end Go.Proofs.Qxb6601675a
