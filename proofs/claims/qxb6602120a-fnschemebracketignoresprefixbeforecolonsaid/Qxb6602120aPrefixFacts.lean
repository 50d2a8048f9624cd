/-
  THE CLOSED FACTS OF THE ROW, each a declaration of its own (together in one they outgrow the lid on memory).
-/
import Derived.Test.Qxb6602120aRows
import Derived.Test.Qxb6602120aOrder
import Derived.JoinedOf
namespace Go.Proofs.Qxb6602120a.fnSchemeBracketIgnoresPrefixBeforeColon

theorem named : Try.pinned.checked.prog.funcNamed Rows.fnSchemeBracketIgnoresPrefixBeforeColonRow.func = some 7 := by kernel_rfl
theorem instd : Try.f7.isInstance Try.pinned.checked.prog Rows.fnSchemeBracketIgnoresPrefixBeforeColonRow.origin Rows.fnSchemeBracketIgnoresPrefixBeforeColonRow.targs := of_decide_eq_true (by kernel_rfl)
theorem wrapd : Try.f7.isWrapper Try.pinned.checked.prog Rows.fnSchemeBracketIgnoresPrefixBeforeColonRow.wrapper Rows.fnSchemeBracketIgnoresPrefixBeforeColonRow.mainSum := by
  unfold Func.isWrapper; first | (rw [if_pos (by decide +kernel)]; kernel_rfl) | (rw [if_neg (by decide +kernel)]; exact ⟨rfl, rfl⟩)
theorem k1 : (Rows.fnSchemeBracketIgnoresPrefixBeforeColonRow.wf (OpenSpec.ofChange Rows.fnSchemeBracketIgnoresPrefixBeforeColonSpec)) = true := by kernel_rfl
theorem k2 : (laidOutB Try.pinned.checked.prog) = true := by kernel_rfl
theorem k3 : (mapsRowed Try.pinned.checked.prog) = true := by kernel_rfl
theorem k4 : (Try.f7.params.all (Try.pinned.checked.prog.readableRec ·)) = true := by kernel_rfl
theorem k5 : (namedTie Try.pinned.checked.prog Rows.fnSchemeBracketIgnoresPrefixBeforeColonRow.named Rows.fnSchemeBracketIgnoresPrefixBeforeColonSpec.vars) = true := by kernel_rfl
theorem k6 : ((Rows.fnSchemeBracketIgnoresPrefixBeforeColonRow.stops == [])) = true := by kernel_rfl
theorem k7 : ((Try.pinned.checked.prog.stops == [])) = true := by kernel_rfl
theorem k8 : ((Rows.fnSchemeBracketIgnoresPrefixBeforeColonRow.knobs == [])) = true := by kernel_rfl
theorem k9 : ((Try.pinned.checked.prog.stopKnobs == [])) = true := by kernel_rfl
theorem k10 : ((Rows.fnSchemeBracketIgnoresPrefixBeforeColonRow.inPlace == Try.pinned.checked.prog.inPlace 7)) = true := by kernel_rfl
theorem k11 : ((Rows.fnSchemeBracketIgnoresPrefixBeforeColonRow.unfollowed == Try.pinned.checked.prog.unfollowed 7)) = true := by kernel_rfl
theorem k12 : ((Rows.fnSchemeBracketIgnoresPrefixBeforeColonRow.recurses == Try.pinned.checked.prog.recurses 7)) = true := by kernel_rfl
theorem k13 : ((Rows.fnSchemeBracketIgnoresPrefixBeforeColonRow.named == Try.pinned.checked.prog.varsNamed 7)) = true := by kernel_rfl
theorem k14 : ((Rows.fnSchemeBracketIgnoresPrefixBeforeColonRow.maps == (Try.f7.params.toList ++ Rows.fnSchemeBracketIgnoresPrefixBeforeColonSpec.plain.varTypes Try.pinned.checked.prog).any (Try.pinned.checked.prog.mapsRec ·))) = true := by kernel_rfl
theorem k15 : ((Rows.fnSchemeBracketIgnoresPrefixBeforeColonRow.ifaces == (Try.f7.params.toList ++ Rows.fnSchemeBracketIgnoresPrefixBeforeColonSpec.plain.varTypes Try.pinned.checked.prog).any (Try.pinned.checked.prog.ifacesRec ·))) = true := by kernel_rfl
theorem k16 : ((Rows.fnSchemeBracketIgnoresPrefixBeforeColonRow.mapsOut == Try.pinned.checked.prog.mapsAmong Try.f7.resultTypes.toList)) = true := by kernel_rfl
theorem k17 : ((Rows.fnSchemeBracketIgnoresPrefixBeforeColonRow.loops == (Try.f7.params.toList ++ Rows.fnSchemeBracketIgnoresPrefixBeforeColonSpec.plain.varTypes Try.pinned.checked.prog).any (Try.pinned.checked.prog.loopsFrom ·))) = true := by kernel_rfl
theorem k18 : ((Rows.fnSchemeBracketIgnoresPrefixBeforeColonRow.wideKeys == (Try.f7.params.toList ++ Rows.fnSchemeBracketIgnoresPrefixBeforeColonSpec.plain.varTypes Try.pinned.checked.prog ++ Try.f7.resultTypes.toList).any (Try.pinned.checked.prog.wideKeysFrom ·))) = true := by kernel_rfl
theorem k19 : (Rows.fnSchemeBracketIgnoresPrefixBeforeColonSpec.vars.all (Try.pinned.checked.prog.varReadable ·)) = true := by kernel_rfl
theorem k20 : (Try.f7.resultTypes.all (fun t => Try.pinned.checked.prog.readableRec t && decide (t < Try.pinned.checked.prog.types.size))) = true := by kernel_rfl
theorem k21 : ((Rows.fnSchemeBracketIgnoresPrefixBeforeColonRow.ifacesOut == Try.f7.resultTypes.toList.any (Try.pinned.checked.prog.ifacesRec ·))) = true := by kernel_rfl
theorem k22 : ((Rows.fnSchemeBracketIgnoresPrefixBeforeColonRow.loopsOut == Try.f7.resultTypes.toList.any (Try.pinned.checked.prog.loopsFrom ·))) = true := by kernel_rfl
theorem k23 : ((Rows.fnSchemeBracketIgnoresPrefixBeforeColonRow.plainKeys == Try.pinned.checked.prog.plainKeys)) = true := by kernel_rfl
theorem k24 : (Rows.fnSchemeBracketIgnoresPrefixBeforeColonRow.shortTexts.isNone) = true := by kernel_rfl
theorem k25 : (Try.pinned.checked.prog.stopsHeard) = true := by kernel_rfl
theorem k26 : (Try.pinned.checked.prog.mayEnter) = true := head_enter
theorem k27 : ((Rows.fnSchemeBracketIgnoresPrefixBeforeColonRow.lifted == Try.pinned.checked.prog.liftsFinal)) = true := by rw [head_lifts]; rfl
theorem k28 : ((Try.pinned.checked.prog.make == some Rows.fnSchemeBracketIgnoresPrefixBeforeColonRow.make)) = true := by rw [head_make]; rfl
theorem k29 : ((Rows.fnSchemeBracketIgnoresPrefixBeforeColonRow.kinds == (if Rows.fnSchemeBracketIgnoresPrefixBeforeColonRow.domain.isEmpty then [] else Try.f7.params.toList.map fun t => match Try.pinned.checked.prog.underlying t with | some (.int k) => some k | _ => none))) = true := by kernel_rfl
theorem k30 : ((Rows.fnSchemeBracketIgnoresPrefixBeforeColonRow.pinned == Rows.fnSchemeBracketIgnoresPrefixBeforeColonRow.pinnedBy)) = true := by kernel_rfl
theorem k31 : ((Rows.fnSchemeBracketIgnoresPrefixBeforeColonRow.veiled == (Try.f7.params.toList ++ Rows.fnSchemeBracketIgnoresPrefixBeforeColonSpec.plain.varTypes Try.pinned.checked.prog ++ Try.f7.resultTypes.toList).any (Try.pinned.checked.prog.veiledRec ·))) = true := by kernel_rfl
theorem k32 : (Rows.fnSchemeBracketIgnoresPrefixBeforeColonRow.veiledFits Try.pinned.checked.prog Try.f7.params.toList (Try.f7.params.toList ++ Rows.fnSchemeBracketIgnoresPrefixBeforeColonSpec.plain.varTypes Try.pinned.checked.prog ++ Try.f7.resultTypes.toList)) = true := by kernel_rfl

theorem both {a b : Bool} (ha : a = true) (hb : b = true) : (a && b) = true := by rw [ha, hb]; rfl
theorem closed : joinedFacts Try.pinned.checked.prog 7 Try.f7 Rows.fnSchemeBracketIgnoresPrefixBeforeColonSpec Rows.fnSchemeBracketIgnoresPrefixBeforeColonRow = true :=
  (both (both (both (both (both (both (both (both (both (both (both (both (both (both (both (both (both (both (both (both (both (both (both (both (both (both (both (both (both (both (both k1 k2) k3) k4) k5) k6) k7) k8) k9) k10) k11) k12) k13) k14) k15) k16) k17) k18) k19) k20) k21) k22) k23) k24) k25) k26) k27) k28) k29) k30) k31) k32)
end Go.Proofs.Qxb6602120a.fnSchemeBracketIgnoresPrefixBeforeColon
