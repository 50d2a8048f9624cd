/-
  THE CLOSED FACTS OF THE ROW, each a declaration of its own (together in one they outgrow the lid on memory).
-/
import Derived.Test.Qxb6601840aRows
import Derived.Test.Qxb6601840aOrder
import Derived.JoinedOf
namespace Go.Proofs.Qxb6601840a.fnKeepsFormReadsTheFreeFormPrefix

theorem named : Try.pinned.checked.prog.funcNamed Rows.fnKeepsFormReadsTheFreeFormPrefixRow.func = some 3 := by kernel_rfl
theorem instd : Try.f3.isInstance Try.pinned.checked.prog Rows.fnKeepsFormReadsTheFreeFormPrefixRow.origin Rows.fnKeepsFormReadsTheFreeFormPrefixRow.targs := of_decide_eq_true (by kernel_rfl)
theorem wrapd : Try.f3.isWrapper Try.pinned.checked.prog Rows.fnKeepsFormReadsTheFreeFormPrefixRow.wrapper Rows.fnKeepsFormReadsTheFreeFormPrefixRow.mainSum := by
  unfold Func.isWrapper; first | (rw [if_pos (by decide +kernel)]; kernel_rfl) | (rw [if_neg (by decide +kernel)]; exact ⟨rfl, rfl⟩)
theorem k1 : (Rows.fnKeepsFormReadsTheFreeFormPrefixRow.wf (OpenSpec.ofChange Rows.fnKeepsFormReadsTheFreeFormPrefixSpec)) = true := by kernel_rfl
theorem k2 : (laidOutB Try.pinned.checked.prog) = true := by kernel_rfl
theorem k3 : (mapsRowed Try.pinned.checked.prog) = true := by kernel_rfl
theorem k4 : (Try.f3.params.all (Try.pinned.checked.prog.readableRec ·)) = true := by kernel_rfl
theorem k5 : (namedTie Try.pinned.checked.prog Rows.fnKeepsFormReadsTheFreeFormPrefixRow.named Rows.fnKeepsFormReadsTheFreeFormPrefixSpec.vars) = true := by kernel_rfl
theorem k6 : ((Rows.fnKeepsFormReadsTheFreeFormPrefixRow.stops == [])) = true := by kernel_rfl
theorem k7 : ((Try.pinned.checked.prog.stops == [])) = true := by kernel_rfl
theorem k8 : ((Rows.fnKeepsFormReadsTheFreeFormPrefixRow.knobs == [])) = true := by kernel_rfl
theorem k9 : ((Try.pinned.checked.prog.stopKnobs == [])) = true := by kernel_rfl
theorem k10 : ((Rows.fnKeepsFormReadsTheFreeFormPrefixRow.inPlace == Try.pinned.checked.prog.inPlace 3)) = true := by kernel_rfl
theorem k11 : ((Rows.fnKeepsFormReadsTheFreeFormPrefixRow.unfollowed == Try.pinned.checked.prog.unfollowed 3)) = true := by kernel_rfl
theorem k12 : ((Rows.fnKeepsFormReadsTheFreeFormPrefixRow.recurses == Try.pinned.checked.prog.recurses 3)) = true := by kernel_rfl
theorem k13 : ((Rows.fnKeepsFormReadsTheFreeFormPrefixRow.named == Try.pinned.checked.prog.varsNamed 3)) = true := by kernel_rfl
theorem k14 : ((Rows.fnKeepsFormReadsTheFreeFormPrefixRow.maps == (Try.f3.params.toList ++ Rows.fnKeepsFormReadsTheFreeFormPrefixSpec.plain.varTypes Try.pinned.checked.prog).any (Try.pinned.checked.prog.mapsRec ·))) = true := by kernel_rfl
theorem k15 : ((Rows.fnKeepsFormReadsTheFreeFormPrefixRow.ifaces == (Try.f3.params.toList ++ Rows.fnKeepsFormReadsTheFreeFormPrefixSpec.plain.varTypes Try.pinned.checked.prog).any (Try.pinned.checked.prog.ifacesRec ·))) = true := by kernel_rfl
theorem k16 : ((Rows.fnKeepsFormReadsTheFreeFormPrefixRow.mapsOut == Try.pinned.checked.prog.mapsAmong Try.f3.resultTypes.toList)) = true := by kernel_rfl
theorem k17 : ((Rows.fnKeepsFormReadsTheFreeFormPrefixRow.loops == (Try.f3.params.toList ++ Rows.fnKeepsFormReadsTheFreeFormPrefixSpec.plain.varTypes Try.pinned.checked.prog).any (Try.pinned.checked.prog.loopsFrom ·))) = true := by kernel_rfl
theorem k18 : ((Rows.fnKeepsFormReadsTheFreeFormPrefixRow.wideKeys == (Try.f3.params.toList ++ Rows.fnKeepsFormReadsTheFreeFormPrefixSpec.plain.varTypes Try.pinned.checked.prog ++ Try.f3.resultTypes.toList).any (Try.pinned.checked.prog.wideKeysFrom ·))) = true := by kernel_rfl
theorem k19 : (Rows.fnKeepsFormReadsTheFreeFormPrefixSpec.vars.all (Try.pinned.checked.prog.varReadable ·)) = true := by kernel_rfl
theorem k20 : (Try.f3.resultTypes.all (fun t => Try.pinned.checked.prog.readableRec t && decide (t < Try.pinned.checked.prog.types.size))) = true := by kernel_rfl
theorem k21 : ((Rows.fnKeepsFormReadsTheFreeFormPrefixRow.ifacesOut == Try.f3.resultTypes.toList.any (Try.pinned.checked.prog.ifacesRec ·))) = true := by kernel_rfl
theorem k22 : ((Rows.fnKeepsFormReadsTheFreeFormPrefixRow.loopsOut == Try.f3.resultTypes.toList.any (Try.pinned.checked.prog.loopsFrom ·))) = true := by kernel_rfl
theorem k23 : ((Rows.fnKeepsFormReadsTheFreeFormPrefixRow.plainKeys == Try.pinned.checked.prog.plainKeys)) = true := by kernel_rfl
theorem k24 : (Rows.fnKeepsFormReadsTheFreeFormPrefixRow.shortTexts.isNone) = true := by kernel_rfl
theorem k25 : (Try.pinned.checked.prog.stopsHeard) = true := by kernel_rfl
theorem k26 : (Try.pinned.checked.prog.mayEnter) = true := head_enter
theorem k27 : ((Rows.fnKeepsFormReadsTheFreeFormPrefixRow.lifted == Try.pinned.checked.prog.liftsFinal)) = true := by rw [head_lifts]; rfl
theorem k28 : ((Try.pinned.checked.prog.make == some Rows.fnKeepsFormReadsTheFreeFormPrefixRow.make)) = true := by rw [head_make]; rfl
theorem k29 : ((Rows.fnKeepsFormReadsTheFreeFormPrefixRow.kinds == (if Rows.fnKeepsFormReadsTheFreeFormPrefixRow.domain.isEmpty then [] else Try.f3.params.toList.map fun t => match Try.pinned.checked.prog.underlying t with | some (.int k) => some k | _ => none))) = true := by kernel_rfl
theorem k30 : ((Rows.fnKeepsFormReadsTheFreeFormPrefixRow.pinned == Rows.fnKeepsFormReadsTheFreeFormPrefixRow.pinnedBy)) = true := by kernel_rfl
theorem k31 : ((Rows.fnKeepsFormReadsTheFreeFormPrefixRow.veiled == (Try.f3.params.toList ++ Rows.fnKeepsFormReadsTheFreeFormPrefixSpec.plain.varTypes Try.pinned.checked.prog ++ Try.f3.resultTypes.toList).any (Try.pinned.checked.prog.veiledRec ·))) = true := by kernel_rfl
theorem k32 : (Rows.fnKeepsFormReadsTheFreeFormPrefixRow.veiledFits Try.pinned.checked.prog Try.f3.params.toList (Try.f3.params.toList ++ Rows.fnKeepsFormReadsTheFreeFormPrefixSpec.plain.varTypes Try.pinned.checked.prog ++ Try.f3.resultTypes.toList)) = true := by kernel_rfl

theorem both {a b : Bool} (ha : a = true) (hb : b = true) : (a && b) = true := by rw [ha, hb]; rfl
theorem closed : joinedFacts Try.pinned.checked.prog 3 Try.f3 Rows.fnKeepsFormReadsTheFreeFormPrefixSpec Rows.fnKeepsFormReadsTheFreeFormPrefixRow = true :=
  (both (both (both (both (both (both (both (both (both (both (both (both (both (both (both (both (both (both (both (both (both (both (both (both (both (both (both (both (both (both (both k1 k2) k3) k4) k5) k6) k7) k8) k9) k10) k11) k12) k13) k14) k15) k16) k17) k18) k19) k20) k21) k22) k23) k24) k25) k26) k27) k28) k29) k30) k31) k32)
end Go.Proofs.Qxb6601840a.fnKeepsFormReadsTheFreeFormPrefix
