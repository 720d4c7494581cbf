/- The closed facts of the row, one by one. -/
import Derived.Test.Qxb6602575aRows
import Derived.Test.Qxb6602575aLead
import Derived.WalkKit
import Derived.ProofKit
namespace Go.Proofs.Qxb6602575a.fnNumberEndMatchesLongestNumberPrefix

theorem band {a b : Bool} (h : a = true) (k : b = true) : (a && b) = true := by rw [h, k]; rfl
theorem fact0 : (Rows.fnNumberEndMatchesLongestNumberPrefixRow.wf (OpenSpec.ofChange Rows.fnNumberEndMatchesLongestNumberPrefixSpec)) = true := by kernel_rfl
theorem fact1 : (laidOutB Try.prog) = true := by kernel_rfl
theorem fact2 : (mapsRowed Try.prog) = true := by kernel_rfl
theorem fact3 : (Try.f3.params.all (Try.prog.readableRec ·)) = true := by kernel_rfl
theorem fact4 : (namedTie Try.prog Rows.fnNumberEndMatchesLongestNumberPrefixRow.named Rows.fnNumberEndMatchesLongestNumberPrefixSpec.vars) = true := by kernel_rfl
theorem fact5 : ((Rows.fnNumberEndMatchesLongestNumberPrefixRow.stops == [])) = true := by kernel_rfl
theorem fact6 : ((Try.prog.stops == [])) = true := by kernel_rfl
theorem fact7 : ((Rows.fnNumberEndMatchesLongestNumberPrefixRow.knobs == [])) = true := by kernel_rfl
theorem fact8 : ((Try.prog.stopKnobs == [])) = true := by kernel_rfl
theorem fact9 : ((Rows.fnNumberEndMatchesLongestNumberPrefixRow.inPlace == Try.prog.inPlace 3)) = true := by kernel_rfl
theorem fact10 : ((Rows.fnNumberEndMatchesLongestNumberPrefixRow.unfollowed == Try.prog.unfollowed 3)) = true := by kernel_rfl
theorem fact11 : ((Rows.fnNumberEndMatchesLongestNumberPrefixRow.recurses == Try.prog.recurses 3)) = true := by kernel_rfl
theorem fact12 : ((Rows.fnNumberEndMatchesLongestNumberPrefixRow.named == Try.prog.varsNamed 3)) = true := by kernel_rfl
theorem fact13 : ((Rows.fnNumberEndMatchesLongestNumberPrefixRow.maps == (Try.f3.params.toList ++ Rows.fnNumberEndMatchesLongestNumberPrefixSpec.plain.varTypes Try.prog).any (Try.prog.mapsRec ·))) = true := by kernel_rfl
theorem fact14 : ((Rows.fnNumberEndMatchesLongestNumberPrefixRow.ifaces == (Try.f3.params.toList ++ Rows.fnNumberEndMatchesLongestNumberPrefixSpec.plain.varTypes Try.prog).any (Try.prog.ifacesRec ·))) = true := by kernel_rfl
theorem fact15 : ((Rows.fnNumberEndMatchesLongestNumberPrefixRow.mapsOut == Try.prog.mapsAmong Try.f3.resultTypes.toList)) = true := by kernel_rfl
theorem fact16 : ((Rows.fnNumberEndMatchesLongestNumberPrefixRow.loops == (Try.f3.params.toList ++ Rows.fnNumberEndMatchesLongestNumberPrefixSpec.plain.varTypes Try.prog).any (Try.prog.loopsFrom ·))) = true := by kernel_rfl
theorem fact17 : ((Rows.fnNumberEndMatchesLongestNumberPrefixRow.wideKeys == (Try.f3.params.toList ++ Rows.fnNumberEndMatchesLongestNumberPrefixSpec.plain.varTypes Try.prog ++ Try.f3.resultTypes.toList).any (Try.prog.wideKeysFrom ·))) = true := by kernel_rfl
theorem fact18 : (Rows.fnNumberEndMatchesLongestNumberPrefixSpec.vars.all (Try.prog.varReadable ·)) = true := by kernel_rfl
theorem fact19 : (Try.f3.resultTypes.all (fun t => Try.prog.readableRec t && decide (t < Try.prog.types.size))) = true := by kernel_rfl
theorem fact20 : ((Rows.fnNumberEndMatchesLongestNumberPrefixRow.ifacesOut == Try.f3.resultTypes.toList.any (Try.prog.ifacesRec ·))) = true := by kernel_rfl
theorem fact21 : ((Rows.fnNumberEndMatchesLongestNumberPrefixRow.loopsOut == Try.f3.resultTypes.toList.any (Try.prog.loopsFrom ·))) = true := by kernel_rfl
theorem fact22 : ((Rows.fnNumberEndMatchesLongestNumberPrefixRow.plainKeys == Try.prog.plainKeys)) = true := by kernel_rfl
theorem fact23 : (Rows.fnNumberEndMatchesLongestNumberPrefixRow.shortTexts.isNone) = true := by kernel_rfl
theorem fact24 : (Try.prog.stopsHeard) = true := by kernel_rfl
theorem fact25 : (Try.prog.mayEnter) = true := Lead.mayEnter
theorem fact26 : ((Rows.fnNumberEndMatchesLongestNumberPrefixRow.lifted == Try.prog.liftsFinal)) = true := by rw [Lead.liftsFinal]; kernel_rfl
theorem fact27 : ((Try.prog.make == some Rows.fnNumberEndMatchesLongestNumberPrefixRow.make)) = true := by rw [Lead.make]; kernel_rfl
theorem fact28 : ((Rows.fnNumberEndMatchesLongestNumberPrefixRow.kinds == (if Rows.fnNumberEndMatchesLongestNumberPrefixRow.domain.isEmpty then [] else Try.f3.params.toList.map fun t => match Try.prog.underlying t with | some (.int k) => some k | _ => none))) = true := by kernel_rfl
theorem fact29 : ((Rows.fnNumberEndMatchesLongestNumberPrefixRow.pinned == Rows.fnNumberEndMatchesLongestNumberPrefixRow.pinnedBy)) = true := by kernel_rfl
theorem fact30 : ((Rows.fnNumberEndMatchesLongestNumberPrefixRow.veiled == (Try.f3.params.toList ++ Rows.fnNumberEndMatchesLongestNumberPrefixSpec.plain.varTypes Try.prog ++ Try.f3.resultTypes.toList).any (Try.prog.veiledRec ·))) = true := by kernel_rfl
theorem fact31 : (Rows.fnNumberEndMatchesLongestNumberPrefixRow.veiledFits Try.prog Try.f3.params.toList (Try.f3.params.toList ++ Rows.fnNumberEndMatchesLongestNumberPrefixSpec.plain.varTypes Try.prog ++ Try.f3.resultTypes.toList)) = true := by kernel_rfl
theorem closed : joinedFacts Try.prog 3 Try.f3 Rows.fnNumberEndMatchesLongestNumberPrefixSpec Rows.fnNumberEndMatchesLongestNumberPrefixRow = true := (band (band (band (band (band (band (band (band (band (band (band (band (band (band (band (band (band (band (band (band (band (band (band (band (band (band (band (band (band (band (band fact0 fact1) fact2) fact3) fact4) fact5) fact6) fact7) fact8) fact9) fact10) fact11) fact12) fact13) fact14) fact15) fact16) fact17) fact18) fact19) fact20) fact21) fact22) fact23) fact24) fact25) fact26) fact27) fact28) fact29) fact30) fact31)
end Go.Proofs.Qxb6602575a.fnNumberEndMatchesLongestNumberPrefix
