/- The closed facts of the row, one by one. -/
import Derived.Test.Qxb6602575aRows
import Derived.Test.Qxb6602575aLead
import Derived.WalkKit
import Derived.ProofKit
namespace Go.Proofs.Qxb6602575a.fnNumberEndLooksNoFurtherThanItsNumber

theorem band {a b : Bool} (h : a = true) (k : b = true) : (a && b) = true := by rw [h, k]; rfl
theorem fact0 : (Rows.fnNumberEndLooksNoFurtherThanItsNumberRow.wf (OpenSpec.ofChange Rows.fnNumberEndLooksNoFurtherThanItsNumberSpec)) = true := by kernel_rfl
theorem fact1 : (laidOutB Try.prog) = true := by kernel_rfl
theorem fact2 : (mapsRowed Try.prog) = true := by kernel_rfl
theorem fact3 : (Try.f4.params.all (Try.prog.readableRec ·)) = true := by kernel_rfl
theorem fact4 : (namedTie Try.prog Rows.fnNumberEndLooksNoFurtherThanItsNumberRow.named Rows.fnNumberEndLooksNoFurtherThanItsNumberSpec.vars) = true := by kernel_rfl
theorem fact5 : ((Rows.fnNumberEndLooksNoFurtherThanItsNumberRow.stops == [])) = true := by kernel_rfl
theorem fact6 : ((Try.prog.stops == [])) = true := by kernel_rfl
theorem fact7 : ((Rows.fnNumberEndLooksNoFurtherThanItsNumberRow.knobs == [])) = true := by kernel_rfl
theorem fact8 : ((Try.prog.stopKnobs == [])) = true := by kernel_rfl
theorem fact9 : ((Rows.fnNumberEndLooksNoFurtherThanItsNumberRow.inPlace == Try.prog.inPlace 4)) = true := by kernel_rfl
theorem fact10 : ((Rows.fnNumberEndLooksNoFurtherThanItsNumberRow.unfollowed == Try.prog.unfollowed 4)) = true := by kernel_rfl
theorem fact11 : ((Rows.fnNumberEndLooksNoFurtherThanItsNumberRow.recurses == Try.prog.recurses 4)) = true := by kernel_rfl
theorem fact12 : ((Rows.fnNumberEndLooksNoFurtherThanItsNumberRow.named == Try.prog.varsNamed 4)) = true := by kernel_rfl
theorem fact13 : ((Rows.fnNumberEndLooksNoFurtherThanItsNumberRow.maps == (Try.f4.params.toList ++ Rows.fnNumberEndLooksNoFurtherThanItsNumberSpec.plain.varTypes Try.prog).any (Try.prog.mapsRec ·))) = true := by kernel_rfl
theorem fact14 : ((Rows.fnNumberEndLooksNoFurtherThanItsNumberRow.ifaces == (Try.f4.params.toList ++ Rows.fnNumberEndLooksNoFurtherThanItsNumberSpec.plain.varTypes Try.prog).any (Try.prog.ifacesRec ·))) = true := by kernel_rfl
theorem fact15 : ((Rows.fnNumberEndLooksNoFurtherThanItsNumberRow.mapsOut == Try.prog.mapsAmong Try.f4.resultTypes.toList)) = true := by kernel_rfl
theorem fact16 : ((Rows.fnNumberEndLooksNoFurtherThanItsNumberRow.loops == (Try.f4.params.toList ++ Rows.fnNumberEndLooksNoFurtherThanItsNumberSpec.plain.varTypes Try.prog).any (Try.prog.loopsFrom ·))) = true := by kernel_rfl
theorem fact17 : ((Rows.fnNumberEndLooksNoFurtherThanItsNumberRow.wideKeys == (Try.f4.params.toList ++ Rows.fnNumberEndLooksNoFurtherThanItsNumberSpec.plain.varTypes Try.prog ++ Try.f4.resultTypes.toList).any (Try.prog.wideKeysFrom ·))) = true := by kernel_rfl
theorem fact18 : (Rows.fnNumberEndLooksNoFurtherThanItsNumberSpec.vars.all (Try.prog.varReadable ·)) = true := by kernel_rfl
theorem fact19 : (Try.f4.resultTypes.all (fun t => Try.prog.readableRec t && decide (t < Try.prog.types.size))) = true := by kernel_rfl
theorem fact20 : ((Rows.fnNumberEndLooksNoFurtherThanItsNumberRow.ifacesOut == Try.f4.resultTypes.toList.any (Try.prog.ifacesRec ·))) = true := by kernel_rfl
theorem fact21 : ((Rows.fnNumberEndLooksNoFurtherThanItsNumberRow.loopsOut == Try.f4.resultTypes.toList.any (Try.prog.loopsFrom ·))) = true := by kernel_rfl
theorem fact22 : ((Rows.fnNumberEndLooksNoFurtherThanItsNumberRow.plainKeys == Try.prog.plainKeys)) = true := by kernel_rfl
theorem fact23 : (Rows.fnNumberEndLooksNoFurtherThanItsNumberRow.shortTexts.isNone) = true := by kernel_rfl
theorem fact24 : (Try.prog.stopsHeard) = true := by kernel_rfl
theorem fact25 : (Try.prog.mayEnter) = true := Lead.mayEnter
theorem fact26 : ((Rows.fnNumberEndLooksNoFurtherThanItsNumberRow.lifted == Try.prog.liftsFinal)) = true := by rw [Lead.liftsFinal]; kernel_rfl
theorem fact27 : ((Try.prog.make == some Rows.fnNumberEndLooksNoFurtherThanItsNumberRow.make)) = true := by rw [Lead.make]; kernel_rfl
theorem fact28 : ((Rows.fnNumberEndLooksNoFurtherThanItsNumberRow.kinds == (if Rows.fnNumberEndLooksNoFurtherThanItsNumberRow.domain.isEmpty then [] else Try.f4.params.toList.map fun t => match Try.prog.underlying t with | some (.int k) => some k | _ => none))) = true := by kernel_rfl
theorem fact29 : ((Rows.fnNumberEndLooksNoFurtherThanItsNumberRow.pinned == Rows.fnNumberEndLooksNoFurtherThanItsNumberRow.pinnedBy)) = true := by kernel_rfl
theorem fact30 : ((Rows.fnNumberEndLooksNoFurtherThanItsNumberRow.veiled == (Try.f4.params.toList ++ Rows.fnNumberEndLooksNoFurtherThanItsNumberSpec.plain.varTypes Try.prog ++ Try.f4.resultTypes.toList).any (Try.prog.veiledRec ·))) = true := by kernel_rfl
theorem fact31 : (Rows.fnNumberEndLooksNoFurtherThanItsNumberRow.veiledFits Try.prog Try.f4.params.toList (Try.f4.params.toList ++ Rows.fnNumberEndLooksNoFurtherThanItsNumberSpec.plain.varTypes Try.prog ++ Try.f4.resultTypes.toList)) = true := by kernel_rfl
theorem closed : joinedFacts Try.prog 4 Try.f4 Rows.fnNumberEndLooksNoFurtherThanItsNumberSpec Rows.fnNumberEndLooksNoFurtherThanItsNumberRow = true := (band (band (band (band (band (band (band (band (band (band (band (band (band (band (band (band (band (band (band (band (band (band (band (band (band (band (band (band (band (band (band fact0 fact1) fact2) fact3) fact4) fact5) fact6) fact7) fact8) fact9) fact10) fact11) fact12) fact13) fact14) fact15) fact16) fact17) fact18) fact19) fact20) fact21) fact22) fact23) fact24) fact25) fact26) fact27) fact28) fact29) fact30) fact31)
end Go.Proofs.Qxb6602575a.fnNumberEndLooksNoFurtherThanItsNumber
