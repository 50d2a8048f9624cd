/-
  THE CLOSED FACTS OF THE ROW, each a declaration of its own (together in one they outgrow the lid on memory).
-/
import Derived.Test.Qxb6602028aRows
import Derived.Test.Qxb6602028aOrder
import Derived.JoinedOf
namespace Go.Proofs.Qxb6602028a.fnValidNameCaseFree

theorem named : Try.pinned.checked.prog.funcNamed Rows.fnValidNameCaseFreeRow.func = some 6 := by kernel_rfl
theorem instd : Try.f6.isInstance Try.pinned.checked.prog Rows.fnValidNameCaseFreeRow.origin Rows.fnValidNameCaseFreeRow.targs := of_decide_eq_true (by kernel_rfl)
theorem wrapd : Try.f6.isWrapper Try.pinned.checked.prog Rows.fnValidNameCaseFreeRow.wrapper Rows.fnValidNameCaseFreeRow.mainSum := by
  unfold Func.isWrapper; first | (rw [if_pos (by decide +kernel)]; kernel_rfl) | (rw [if_neg (by decide +kernel)]; exact ⟨rfl, rfl⟩)
theorem k1 : (Rows.fnValidNameCaseFreeRow.wf (OpenSpec.ofChange Rows.fnValidNameCaseFreeSpec)) = true := by kernel_rfl
theorem k2 : (laidOutB Try.pinned.checked.prog) = true := by kernel_rfl
theorem k3 : (mapsRowed Try.pinned.checked.prog) = true := by kernel_rfl
theorem k4 : (Try.f6.params.all (Try.pinned.checked.prog.readableRec ·)) = true := by kernel_rfl
theorem k5 : (namedTie Try.pinned.checked.prog Rows.fnValidNameCaseFreeRow.named Rows.fnValidNameCaseFreeSpec.vars) = true := by kernel_rfl
theorem k6 : ((Rows.fnValidNameCaseFreeRow.stops == [])) = true := by kernel_rfl
theorem k7 : ((Try.pinned.checked.prog.stops == [])) = true := by kernel_rfl
theorem k8 : ((Rows.fnValidNameCaseFreeRow.knobs == [])) = true := by kernel_rfl
theorem k9 : ((Try.pinned.checked.prog.stopKnobs == [])) = true := by kernel_rfl
theorem k10 : ((Rows.fnValidNameCaseFreeRow.inPlace == Try.pinned.checked.prog.inPlace 6)) = true := by kernel_rfl
theorem k11 : ((Rows.fnValidNameCaseFreeRow.unfollowed == Try.pinned.checked.prog.unfollowed 6)) = true := by kernel_rfl
theorem k12 : ((Rows.fnValidNameCaseFreeRow.recurses == Try.pinned.checked.prog.recurses 6)) = true := by kernel_rfl
theorem k13 : ((Rows.fnValidNameCaseFreeRow.named == Try.pinned.checked.prog.varsNamed 6)) = true := by kernel_rfl
theorem k14 : ((Rows.fnValidNameCaseFreeRow.maps == (Try.f6.params.toList ++ Rows.fnValidNameCaseFreeSpec.plain.varTypes Try.pinned.checked.prog).any (Try.pinned.checked.prog.mapsRec ·))) = true := by kernel_rfl
theorem k15 : ((Rows.fnValidNameCaseFreeRow.ifaces == (Try.f6.params.toList ++ Rows.fnValidNameCaseFreeSpec.plain.varTypes Try.pinned.checked.prog).any (Try.pinned.checked.prog.ifacesRec ·))) = true := by kernel_rfl
theorem k16 : ((Rows.fnValidNameCaseFreeRow.mapsOut == Try.pinned.checked.prog.mapsAmong Try.f6.resultTypes.toList)) = true := by kernel_rfl
theorem k17 : ((Rows.fnValidNameCaseFreeRow.loops == (Try.f6.params.toList ++ Rows.fnValidNameCaseFreeSpec.plain.varTypes Try.pinned.checked.prog).any (Try.pinned.checked.prog.loopsFrom ·))) = true := by kernel_rfl
theorem k18 : ((Rows.fnValidNameCaseFreeRow.wideKeys == (Try.f6.params.toList ++ Rows.fnValidNameCaseFreeSpec.plain.varTypes Try.pinned.checked.prog ++ Try.f6.resultTypes.toList).any (Try.pinned.checked.prog.wideKeysFrom ·))) = true := by kernel_rfl
theorem k19 : (Rows.fnValidNameCaseFreeSpec.vars.all (Try.pinned.checked.prog.varReadable ·)) = true := by kernel_rfl
theorem k20 : (Try.f6.resultTypes.all (fun t => Try.pinned.checked.prog.readableRec t && decide (t < Try.pinned.checked.prog.types.size))) = true := by kernel_rfl
theorem k21 : ((Rows.fnValidNameCaseFreeRow.ifacesOut == Try.f6.resultTypes.toList.any (Try.pinned.checked.prog.ifacesRec ·))) = true := by kernel_rfl
theorem k22 : ((Rows.fnValidNameCaseFreeRow.loopsOut == Try.f6.resultTypes.toList.any (Try.pinned.checked.prog.loopsFrom ·))) = true := by kernel_rfl
theorem k23 : ((Rows.fnValidNameCaseFreeRow.plainKeys == Try.pinned.checked.prog.plainKeys)) = true := by kernel_rfl
theorem k24 : (Rows.fnValidNameCaseFreeRow.shortTexts.isNone) = true := by kernel_rfl
theorem k25 : (Try.pinned.checked.prog.stopsHeard) = true := by kernel_rfl
theorem k26 : (Try.pinned.checked.prog.mayEnter) = true := head_enter
theorem k27 : ((Rows.fnValidNameCaseFreeRow.lifted == Try.pinned.checked.prog.liftsFinal)) = true := by rw [head_lifts]; rfl
theorem k28 : ((Try.pinned.checked.prog.make == some Rows.fnValidNameCaseFreeRow.make)) = true := by rw [head_make]; rfl
theorem k29 : ((Rows.fnValidNameCaseFreeRow.kinds == (if Rows.fnValidNameCaseFreeRow.domain.isEmpty then [] else Try.f6.params.toList.map fun t => match Try.pinned.checked.prog.underlying t with | some (.int k) => some k | _ => none))) = true := by kernel_rfl
theorem k30 : ((Rows.fnValidNameCaseFreeRow.pinned == Rows.fnValidNameCaseFreeRow.pinnedBy)) = true := by kernel_rfl
theorem k31 : ((Rows.fnValidNameCaseFreeRow.veiled == (Try.f6.params.toList ++ Rows.fnValidNameCaseFreeSpec.plain.varTypes Try.pinned.checked.prog ++ Try.f6.resultTypes.toList).any (Try.pinned.checked.prog.veiledRec ·))) = true := by kernel_rfl
theorem k32 : (Rows.fnValidNameCaseFreeRow.veiledFits Try.pinned.checked.prog Try.f6.params.toList (Try.f6.params.toList ++ Rows.fnValidNameCaseFreeSpec.plain.varTypes Try.pinned.checked.prog ++ Try.f6.resultTypes.toList)) = true := by kernel_rfl

theorem both {a b : Bool} (ha : a = true) (hb : b = true) : (a && b) = true := by rw [ha, hb]; rfl
theorem closed : joinedFacts Try.pinned.checked.prog 6 Try.f6 Rows.fnValidNameCaseFreeSpec Rows.fnValidNameCaseFreeRow = true :=
  (both (both (both (both (both (both (both (both (both (both (both (both (both (both (both (both (both (both (both (both (both (both (both (both (both (both (both (both (both (both (both k1 k2) k3) k4) k5) k6) k7) k8) k9) k10) k11) k12) k13) k14) k15) k16) k17) k18) k19) k20) k21) k22) k23) k24) k25) k26) k27) k28) k29) k30) k31) k32)
end Go.Proofs.Qxb6602028a.fnValidNameCaseFree
