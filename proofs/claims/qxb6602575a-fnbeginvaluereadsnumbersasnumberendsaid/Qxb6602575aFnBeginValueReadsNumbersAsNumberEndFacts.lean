/- The closed facts of the row, one by one. -/
import Derived.Test.Qxb6602575aRows
import Derived.Test.Qxb6602575aLead
import Derived.WalkKit
import Derived.ProofKit
namespace Go.Proofs.Qxb6602575a.fnBeginValueReadsNumbersAsNumberEnd

theorem band {a b : Bool} (h : a = true) (k : b = true) : (a && b) = true := by rw [h, k]; rfl
theorem fact0 : (Rows.fnBeginValueReadsNumbersAsNumberEndRow.wf (OpenSpec.ofChange Rows.fnBeginValueReadsNumbersAsNumberEndSpec)) = true := by kernel_rfl
theorem fact1 : (laidOutB Try.prog) = true := by kernel_rfl
theorem fact2 : (mapsRowed Try.prog) = true := by kernel_rfl
theorem fact3 : (Try.f9.params.all (Try.prog.readableRec ·)) = true := by kernel_rfl
theorem fact4 : (namedTie Try.prog Rows.fnBeginValueReadsNumbersAsNumberEndRow.named Rows.fnBeginValueReadsNumbersAsNumberEndSpec.vars) = true := by kernel_rfl
theorem fact5 : ((Rows.fnBeginValueReadsNumbersAsNumberEndRow.stops == [])) = true := by kernel_rfl
theorem fact6 : ((Try.prog.stops == [])) = true := by kernel_rfl
theorem fact7 : ((Rows.fnBeginValueReadsNumbersAsNumberEndRow.knobs == [])) = true := by kernel_rfl
theorem fact8 : ((Try.prog.stopKnobs == [])) = true := by kernel_rfl
theorem fact9 : ((Rows.fnBeginValueReadsNumbersAsNumberEndRow.inPlace == Try.prog.inPlace 9)) = true := by kernel_rfl
theorem fact10 : ((Rows.fnBeginValueReadsNumbersAsNumberEndRow.unfollowed == Try.prog.unfollowed 9)) = true := by kernel_rfl
theorem fact11 : ((Rows.fnBeginValueReadsNumbersAsNumberEndRow.recurses == Try.prog.recurses 9)) = true := by kernel_rfl
theorem fact12 : ((Rows.fnBeginValueReadsNumbersAsNumberEndRow.named == Try.prog.varsNamed 9)) = true := by kernel_rfl
theorem fact13 : ((Rows.fnBeginValueReadsNumbersAsNumberEndRow.maps == (Try.f9.params.toList ++ Rows.fnBeginValueReadsNumbersAsNumberEndSpec.plain.varTypes Try.prog).any (Try.prog.mapsRec ·))) = true := by kernel_rfl
theorem fact14 : ((Rows.fnBeginValueReadsNumbersAsNumberEndRow.ifaces == (Try.f9.params.toList ++ Rows.fnBeginValueReadsNumbersAsNumberEndSpec.plain.varTypes Try.prog).any (Try.prog.ifacesRec ·))) = true := by kernel_rfl
theorem fact15 : ((Rows.fnBeginValueReadsNumbersAsNumberEndRow.mapsOut == Try.prog.mapsAmong Try.f9.resultTypes.toList)) = true := by kernel_rfl
theorem fact16 : ((Rows.fnBeginValueReadsNumbersAsNumberEndRow.loops == (Try.f9.params.toList ++ Rows.fnBeginValueReadsNumbersAsNumberEndSpec.plain.varTypes Try.prog).any (Try.prog.loopsFrom ·))) = true := by kernel_rfl
theorem fact17 : ((Rows.fnBeginValueReadsNumbersAsNumberEndRow.wideKeys == (Try.f9.params.toList ++ Rows.fnBeginValueReadsNumbersAsNumberEndSpec.plain.varTypes Try.prog ++ Try.f9.resultTypes.toList).any (Try.prog.wideKeysFrom ·))) = true := by kernel_rfl
theorem fact18 : (Rows.fnBeginValueReadsNumbersAsNumberEndSpec.vars.all (Try.prog.varReadable ·)) = true := by kernel_rfl
theorem fact19 : (Try.f9.resultTypes.all (fun t => Try.prog.readableRec t && decide (t < Try.prog.types.size))) = true := by kernel_rfl
theorem fact20 : ((Rows.fnBeginValueReadsNumbersAsNumberEndRow.ifacesOut == Try.f9.resultTypes.toList.any (Try.prog.ifacesRec ·))) = true := by kernel_rfl
theorem fact21 : ((Rows.fnBeginValueReadsNumbersAsNumberEndRow.loopsOut == Try.f9.resultTypes.toList.any (Try.prog.loopsFrom ·))) = true := by kernel_rfl
theorem fact22 : ((Rows.fnBeginValueReadsNumbersAsNumberEndRow.plainKeys == Try.prog.plainKeys)) = true := by kernel_rfl
theorem fact23 : (Rows.fnBeginValueReadsNumbersAsNumberEndRow.shortTexts.isNone) = true := by kernel_rfl
theorem fact24 : (Try.prog.stopsHeard) = true := by kernel_rfl
theorem fact25 : (Try.prog.mayEnter) = true := Lead.mayEnter
theorem fact26 : ((Rows.fnBeginValueReadsNumbersAsNumberEndRow.lifted == Try.prog.liftsFinal)) = true := by rw [Lead.liftsFinal]; kernel_rfl
theorem fact27 : ((Try.prog.make == some Rows.fnBeginValueReadsNumbersAsNumberEndRow.make)) = true := by rw [Lead.make]; kernel_rfl
theorem fact28 : ((Rows.fnBeginValueReadsNumbersAsNumberEndRow.kinds == (if Rows.fnBeginValueReadsNumbersAsNumberEndRow.domain.isEmpty then [] else Try.f9.params.toList.map fun t => match Try.prog.underlying t with | some (.int k) => some k | _ => none))) = true := by kernel_rfl
theorem fact29 : ((Rows.fnBeginValueReadsNumbersAsNumberEndRow.pinned == Rows.fnBeginValueReadsNumbersAsNumberEndRow.pinnedBy)) = true := by kernel_rfl
theorem fact30 : ((Rows.fnBeginValueReadsNumbersAsNumberEndRow.veiled == (Try.f9.params.toList ++ Rows.fnBeginValueReadsNumbersAsNumberEndSpec.plain.varTypes Try.prog ++ Try.f9.resultTypes.toList).any (Try.prog.veiledRec ·))) = true := by kernel_rfl
theorem fact31 : (Rows.fnBeginValueReadsNumbersAsNumberEndRow.veiledFits Try.prog Try.f9.params.toList (Try.f9.params.toList ++ Rows.fnBeginValueReadsNumbersAsNumberEndSpec.plain.varTypes Try.prog ++ Try.f9.resultTypes.toList)) = true := by kernel_rfl
theorem closed : joinedFacts Try.prog 9 Try.f9 Rows.fnBeginValueReadsNumbersAsNumberEndSpec Rows.fnBeginValueReadsNumbersAsNumberEndRow = true := (band (band (band (band (band (band (band (band (band (band (band (band (band (band (band (band (band (band (band (band (band (band (band (band (band (band (band (band (band (band (band fact0 fact1) fact2) fact3) fact4) fact5) fact6) fact7) fact8) fact9) fact10) fact11) fact12) fact13) fact14) fact15) fact16) fact17) fact18) fact19) fact20) fact21) fact22) fact23) fact24) fact25) fact26) fact27) fact28) fact29) fact30) fact31)
end Go.Proofs.Qxb6602575a.fnBeginValueReadsNumbersAsNumberEnd
