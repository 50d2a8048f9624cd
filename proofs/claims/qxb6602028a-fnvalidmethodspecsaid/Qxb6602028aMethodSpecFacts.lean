/-
  THE CLOSED FACTS OF THE ROW, each a declaration of its own (together in one they outgrow the lid on memory).
-/
import Derived.Test.Qxb6602028aRows
import Derived.Test.Qxb6602028aOrder
import Derived.JoinedOf
namespace Go.Proofs.Qxb6602028a.fnValidMethodSpec

theorem named : Try.pinned.checked.prog.funcNamed Rows.fnValidMethodSpecRow.func = some 3 := by kernel_rfl
theorem instd : Try.f3.isInstance Try.pinned.checked.prog Rows.fnValidMethodSpecRow.origin Rows.fnValidMethodSpecRow.targs := of_decide_eq_true (by kernel_rfl)
theorem wrapd : Try.f3.isWrapper Try.pinned.checked.prog Rows.fnValidMethodSpecRow.wrapper Rows.fnValidMethodSpecRow.mainSum := by
  unfold Func.isWrapper; first | (rw [if_pos (by decide +kernel)]; kernel_rfl) | (rw [if_neg (by decide +kernel)]; exact ⟨rfl, rfl⟩)
theorem k1 : (Rows.fnValidMethodSpecRow.wf (OpenSpec.ofChange Rows.fnValidMethodSpecSpec)) = true := by kernel_rfl
theorem k2 : (laidOutB Try.pinned.checked.prog) = true := by kernel_rfl
theorem k3 : (mapsRowed Try.pinned.checked.prog) = true := by kernel_rfl
theorem k4 : (Try.f3.params.all (Try.pinned.checked.prog.readableRec ·)) = true := by kernel_rfl
theorem k5 : (namedTie Try.pinned.checked.prog Rows.fnValidMethodSpecRow.named Rows.fnValidMethodSpecSpec.vars) = true := by kernel_rfl
theorem k6 : ((Rows.fnValidMethodSpecRow.stops == [])) = true := by kernel_rfl
theorem k7 : ((Try.pinned.checked.prog.stops == [])) = true := by kernel_rfl
theorem k8 : ((Rows.fnValidMethodSpecRow.knobs == [])) = true := by kernel_rfl
theorem k9 : ((Try.pinned.checked.prog.stopKnobs == [])) = true := by kernel_rfl
theorem k10 : ((Rows.fnValidMethodSpecRow.inPlace == Try.pinned.checked.prog.inPlace 3)) = true := by kernel_rfl
theorem k11 : ((Rows.fnValidMethodSpecRow.unfollowed == Try.pinned.checked.prog.unfollowed 3)) = true := by kernel_rfl
theorem k12 : ((Rows.fnValidMethodSpecRow.recurses == Try.pinned.checked.prog.recurses 3)) = true := by kernel_rfl
theorem k13 : ((Rows.fnValidMethodSpecRow.named == Try.pinned.checked.prog.varsNamed 3)) = true := by kernel_rfl
theorem k14 : ((Rows.fnValidMethodSpecRow.maps == (Try.f3.params.toList ++ Rows.fnValidMethodSpecSpec.plain.varTypes Try.pinned.checked.prog).any (Try.pinned.checked.prog.mapsRec ·))) = true := by kernel_rfl
theorem k15 : ((Rows.fnValidMethodSpecRow.ifaces == (Try.f3.params.toList ++ Rows.fnValidMethodSpecSpec.plain.varTypes Try.pinned.checked.prog).any (Try.pinned.checked.prog.ifacesRec ·))) = true := by kernel_rfl
theorem k16 : ((Rows.fnValidMethodSpecRow.mapsOut == Try.pinned.checked.prog.mapsAmong Try.f3.resultTypes.toList)) = true := by kernel_rfl
theorem k17 : ((Rows.fnValidMethodSpecRow.loops == (Try.f3.params.toList ++ Rows.fnValidMethodSpecSpec.plain.varTypes Try.pinned.checked.prog).any (Try.pinned.checked.prog.loopsFrom ·))) = true := by kernel_rfl
theorem k18 : ((Rows.fnValidMethodSpecRow.wideKeys == (Try.f3.params.toList ++ Rows.fnValidMethodSpecSpec.plain.varTypes Try.pinned.checked.prog ++ Try.f3.resultTypes.toList).any (Try.pinned.checked.prog.wideKeysFrom ·))) = true := by kernel_rfl
theorem k19 : (Rows.fnValidMethodSpecSpec.vars.all (Try.pinned.checked.prog.varReadable ·)) = true := by kernel_rfl
theorem k20 : (Try.f3.resultTypes.all (fun t => Try.pinned.checked.prog.readableRec t && decide (t < Try.pinned.checked.prog.types.size))) = true := by kernel_rfl
theorem k21 : ((Rows.fnValidMethodSpecRow.ifacesOut == Try.f3.resultTypes.toList.any (Try.pinned.checked.prog.ifacesRec ·))) = true := by kernel_rfl
theorem k22 : ((Rows.fnValidMethodSpecRow.loopsOut == Try.f3.resultTypes.toList.any (Try.pinned.checked.prog.loopsFrom ·))) = true := by kernel_rfl
theorem k23 : ((Rows.fnValidMethodSpecRow.plainKeys == Try.pinned.checked.prog.plainKeys)) = true := by kernel_rfl
theorem k24 : (Rows.fnValidMethodSpecRow.shortTexts.isNone) = true := by kernel_rfl
theorem k25 : (Try.pinned.checked.prog.stopsHeard) = true := by kernel_rfl
theorem k26 : (Try.pinned.checked.prog.mayEnter) = true := head_enter
theorem k27 : ((Rows.fnValidMethodSpecRow.lifted == Try.pinned.checked.prog.liftsFinal)) = true := by rw [head_lifts]; rfl
theorem k28 : ((Try.pinned.checked.prog.make == some Rows.fnValidMethodSpecRow.make)) = true := by rw [head_make]; rfl
theorem k29 : ((Rows.fnValidMethodSpecRow.kinds == (if Rows.fnValidMethodSpecRow.domain.isEmpty then [] else Try.f3.params.toList.map fun t => match Try.pinned.checked.prog.underlying t with | some (.int k) => some k | _ => none))) = true := by kernel_rfl
theorem k30 : ((Rows.fnValidMethodSpecRow.pinned == Rows.fnValidMethodSpecRow.pinnedBy)) = true := by kernel_rfl
theorem k31 : ((Rows.fnValidMethodSpecRow.veiled == (Try.f3.params.toList ++ Rows.fnValidMethodSpecSpec.plain.varTypes Try.pinned.checked.prog ++ Try.f3.resultTypes.toList).any (Try.pinned.checked.prog.veiledRec ·))) = true := by kernel_rfl
theorem k32 : (Rows.fnValidMethodSpecRow.veiledFits Try.pinned.checked.prog Try.f3.params.toList (Try.f3.params.toList ++ Rows.fnValidMethodSpecSpec.plain.varTypes Try.pinned.checked.prog ++ Try.f3.resultTypes.toList)) = true := by kernel_rfl

theorem both {a b : Bool} (ha : a = true) (hb : b = true) : (a && b) = true := by rw [ha, hb]; rfl
theorem closed : joinedFacts Try.pinned.checked.prog 3 Try.f3 Rows.fnValidMethodSpecSpec Rows.fnValidMethodSpecRow = true :=
  (both (both (both (both (both (both (both (both (both (both (both (both (both (both (both (both (both (both (both (both (both (both (both (both (both (both (both (both (both (both (both k1 k2) k3) k4) k5) k6) k7) k8) k9) k10) k11) k12) k13) k14) k15) k16) k17) k18) k19) k20) k21) k22) k23) k24) k25) k26) k27) k28) k29) k30) k31) k32)
end Go.Proofs.Qxb6602028a.fnValidMethodSpec
