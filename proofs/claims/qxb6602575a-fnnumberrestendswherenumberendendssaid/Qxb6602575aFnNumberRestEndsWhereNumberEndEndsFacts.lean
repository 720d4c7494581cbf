/- The closed facts of the row, one by one. -/
import Derived.Test.Qxb6602575aRows
import Derived.Test.Qxb6602575aLead
import Derived.WalkKit
import Derived.ProofKit
namespace Go.Proofs.Qxb6602575a.fnNumberRestEndsWhereNumberEndEnds

theorem band {a b : Bool} (h : a = true) (k : b = true) : (a && b) = true := by rw [h, k]; rfl
theorem fact0 : (Rows.fnNumberRestEndsWhereNumberEndEndsRow.wf (OpenSpec.ofChange Rows.fnNumberRestEndsWhereNumberEndEndsSpec)) = true := by kernel_rfl
theorem fact1 : (laidOutB Try.prog) = true := by kernel_rfl
theorem fact2 : (mapsRowed Try.prog) = true := by kernel_rfl
theorem fact3 : (Try.f6.params.all (Try.prog.readableRec ·)) = true := by kernel_rfl
theorem fact4 : (namedTie Try.prog Rows.fnNumberRestEndsWhereNumberEndEndsRow.named Rows.fnNumberRestEndsWhereNumberEndEndsSpec.vars) = true := by kernel_rfl
theorem fact5 : ((Rows.fnNumberRestEndsWhereNumberEndEndsRow.stops == [])) = true := by kernel_rfl
theorem fact6 : ((Try.prog.stops == [])) = true := by kernel_rfl
theorem fact7 : ((Rows.fnNumberRestEndsWhereNumberEndEndsRow.knobs == [])) = true := by kernel_rfl
theorem fact8 : ((Try.prog.stopKnobs == [])) = true := by kernel_rfl
theorem fact9 : ((Rows.fnNumberRestEndsWhereNumberEndEndsRow.inPlace == Try.prog.inPlace 6)) = true := by kernel_rfl
theorem fact10 : ((Rows.fnNumberRestEndsWhereNumberEndEndsRow.unfollowed == Try.prog.unfollowed 6)) = true := by kernel_rfl
theorem fact11 : ((Rows.fnNumberRestEndsWhereNumberEndEndsRow.recurses == Try.prog.recurses 6)) = true := by kernel_rfl
theorem fact12 : ((Rows.fnNumberRestEndsWhereNumberEndEndsRow.named == Try.prog.varsNamed 6)) = true := by kernel_rfl
theorem fact13 : ((Rows.fnNumberRestEndsWhereNumberEndEndsRow.maps == (Try.f6.params.toList ++ Rows.fnNumberRestEndsWhereNumberEndEndsSpec.plain.varTypes Try.prog).any (Try.prog.mapsRec ·))) = true := by kernel_rfl
theorem fact14 : ((Rows.fnNumberRestEndsWhereNumberEndEndsRow.ifaces == (Try.f6.params.toList ++ Rows.fnNumberRestEndsWhereNumberEndEndsSpec.plain.varTypes Try.prog).any (Try.prog.ifacesRec ·))) = true := by kernel_rfl
theorem fact15 : ((Rows.fnNumberRestEndsWhereNumberEndEndsRow.mapsOut == Try.prog.mapsAmong Try.f6.resultTypes.toList)) = true := by kernel_rfl
theorem fact16 : ((Rows.fnNumberRestEndsWhereNumberEndEndsRow.loops == (Try.f6.params.toList ++ Rows.fnNumberRestEndsWhereNumberEndEndsSpec.plain.varTypes Try.prog).any (Try.prog.loopsFrom ·))) = true := by kernel_rfl
theorem fact17 : ((Rows.fnNumberRestEndsWhereNumberEndEndsRow.wideKeys == (Try.f6.params.toList ++ Rows.fnNumberRestEndsWhereNumberEndEndsSpec.plain.varTypes Try.prog ++ Try.f6.resultTypes.toList).any (Try.prog.wideKeysFrom ·))) = true := by kernel_rfl
theorem fact18 : (Rows.fnNumberRestEndsWhereNumberEndEndsSpec.vars.all (Try.prog.varReadable ·)) = true := by kernel_rfl
theorem fact19 : (Try.f6.resultTypes.all (fun t => Try.prog.readableRec t && decide (t < Try.prog.types.size))) = true := by kernel_rfl
theorem fact20 : ((Rows.fnNumberRestEndsWhereNumberEndEndsRow.ifacesOut == Try.f6.resultTypes.toList.any (Try.prog.ifacesRec ·))) = true := by kernel_rfl
theorem fact21 : ((Rows.fnNumberRestEndsWhereNumberEndEndsRow.loopsOut == Try.f6.resultTypes.toList.any (Try.prog.loopsFrom ·))) = true := by kernel_rfl
theorem fact22 : ((Rows.fnNumberRestEndsWhereNumberEndEndsRow.plainKeys == Try.prog.plainKeys)) = true := by kernel_rfl
theorem fact23 : (Rows.fnNumberRestEndsWhereNumberEndEndsRow.shortTexts.isNone) = true := by kernel_rfl
theorem fact24 : (Try.prog.stopsHeard) = true := by kernel_rfl
theorem fact25 : (Try.prog.mayEnter) = true := Lead.mayEnter
theorem fact26 : ((Rows.fnNumberRestEndsWhereNumberEndEndsRow.lifted == Try.prog.liftsFinal)) = true := by rw [Lead.liftsFinal]; kernel_rfl
theorem fact27 : ((Try.prog.make == some Rows.fnNumberRestEndsWhereNumberEndEndsRow.make)) = true := by rw [Lead.make]; kernel_rfl
theorem fact28 : ((Rows.fnNumberRestEndsWhereNumberEndEndsRow.kinds == (if Rows.fnNumberRestEndsWhereNumberEndEndsRow.domain.isEmpty then [] else Try.f6.params.toList.map fun t => match Try.prog.underlying t with | some (.int k) => some k | _ => none))) = true := by kernel_rfl
theorem fact29 : ((Rows.fnNumberRestEndsWhereNumberEndEndsRow.pinned == Rows.fnNumberRestEndsWhereNumberEndEndsRow.pinnedBy)) = true := by kernel_rfl
theorem fact30 : ((Rows.fnNumberRestEndsWhereNumberEndEndsRow.veiled == (Try.f6.params.toList ++ Rows.fnNumberRestEndsWhereNumberEndEndsSpec.plain.varTypes Try.prog ++ Try.f6.resultTypes.toList).any (Try.prog.veiledRec ·))) = true := by kernel_rfl
theorem fact31 : (Rows.fnNumberRestEndsWhereNumberEndEndsRow.veiledFits Try.prog Try.f6.params.toList (Try.f6.params.toList ++ Rows.fnNumberRestEndsWhereNumberEndEndsSpec.plain.varTypes Try.prog ++ Try.f6.resultTypes.toList)) = true := by kernel_rfl
theorem closed : joinedFacts Try.prog 6 Try.f6 Rows.fnNumberRestEndsWhereNumberEndEndsSpec Rows.fnNumberRestEndsWhereNumberEndEndsRow = true := (band (band (band (band (band (band (band (band (band (band (band (band (band (band (band (band (band (band (band (band (band (band (band (band (band (band (band (band (band (band (band fact0 fact1) fact2) fact3) fact4) fact5) fact6) fact7) fact8) fact9) fact10) fact11) fact12) fact13) fact14) fact15) fact16) fact17) fact18) fact19) fact20) fact21) fact22) fact23) fact24) fact25) fact26) fact27) fact28) fact29) fact30) fact31)
end Go.Proofs.Qxb6602575a.fnNumberRestEndsWhereNumberEndEnds
