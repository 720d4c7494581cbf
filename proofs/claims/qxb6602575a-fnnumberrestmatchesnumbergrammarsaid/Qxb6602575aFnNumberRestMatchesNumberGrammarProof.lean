/- The row of the law: a slice of bytes, an int and a struct of twenty fields come in. -/
import Derived.Test.Qxb6602575aRows
import Derived.Test.Qxb6602575aLead
import Derived.Test.Qxb6602575aW26
import Derived.Test.Qxb6602575aGram
import Derived.WalkKit
import Derived.ProofKit
import Derived.OpenShut
import Derived.ShutString
import Derived.ChangeOld
import Derived.Below
namespace Go.Proofs.Qxb6602575a.fnNumberRestMatchesNumberGrammar
open Go.ChangeShapes Go.WideShapes Go.ChangeAt Go.RowKit
set_option linter.unusedVariables false

theorem own : ownKnob Try.prog.godebug = none := by kernel_rfl
theorem laidOut : laidOutB Try.prog = true := by kernel_rfl

set_option maxRecDepth 100000 in
theorem lifted (os : Os) (started : os.Started) (H : Type) (enc : TypeId × Value → H) :
    ReturnsInHanded {} Try.checked os 5 .any (Rows.fnNumberRestMatchesNumberGrammarSpec.pre6 enc Try.prog Try.f5 Rows.fnNumberRestMatchesNumberGrammarRow.domain false) (Rows.fnNumberRestMatchesNumberGrammarSpec.post enc Try.prog Try.f5 false true false false) := by
  refine returnsInHanded_of_change (C := Try.checked) own started (by kernel_rfl) Try.func5
    (ChangeSpec.witness6 (enc := enc) (C := Try.checked) false ⟨#[], #[.slice none 0 0, .int .i64 0, .agg #[.slice none 0 0, .int .i64 0, .slice none 0 0, .int .i64 0, .int .u8 0, .int .u8 0, .string ⟨#[]⟩, .bool false, .int .i64 0, .bool false, .bool false, .bool false, .bool false, .slice none 0 0, .int .i64 0, .int .i64 0, .int .i64 0, .slice none 0 0, .bool false, .bool false]], []⟩ 8 (by kernel_rfl) (by kernel_rfl) (by kernel_rfl) (by kernel_rfl)) ?_
  intro W base args ds gs before hval0 hW hcnd _
  have hval : ∀ (j : Nat) t v, Try.f5.params[j]? = some t → args[j]? = some v → Value.okWide Try.prog W .any base t v := hval0
  have hW' := hW
  obtain ⟨p, q, hA0, hV, rfl, hfz, hnd⟩ := hW
  have hA : DataW.TrodAll enc Try.prog W 0 (fun _ => true) true Try.f5.params.toList args.toList ds p := hA0
  rw [Try.params5] at hA hval
  obtain ⟨v0, vs0, d0, ds0, p0, q0, hargs, rfl, rfl, h0, r0⟩ := trodAll_cons hA
  obtain ⟨v1, vs1, d1, ds1, p1, q1, rfl, rfl, rfl, h1, r1⟩ := trodAll_cons r0
  obtain ⟨v2, vs2, d2, ds2, p2, q2, rfl, rfl, rfl, h2, r2⟩ := trodAll_cons r1
  obtain ⟨rfl, rfl, rfl⟩ := trodAll_nil r2
  obtain rfl : args = #[v0, v1, v2] := by cases args; simp_all
  obtain ⟨rfl, rfl⟩ := trodVars_none hV
  obtain ⟨a0, len0, cap0, rfl⟩ := okWide_slice Try.underlying22 (hval 0 22 v0 rfl rfl)
  have k0 := h0
  have lt0 : ∀ x ∈ p0, x.block < W.heap.size := by obtain ⟨m, hm⟩ := k0; exact DataW.trod_lt m _ _ _ hm
  obtain ⟨ks, zs, hk, hrd, hlen, hnil⟩ : ∃ (k : Sl) (zs : List Int), (.slice a0 len0 cap0 : Value) = k.v ∧ Rd W k.a zs ∧ zs.length = k.n ∧ (k.a = none → k.c = 0) := by
    obtain ⟨fuel, hf⟩ := h0
    exact sl_ints (n := fuel) (x := (d0, p0)) hf
  obtain ⟨rfl, rfl, rfl⟩ : a0 = ks.a ∧ len0 = ks.n ∧ cap0 = ks.c := by simpa [Sl.v] using hk
  obtain ⟨a1, rfl, rfl, rfl, w1⟩ := open_int Try.underlying3 (hval 1 3 v1 rfl rfl) h1
  have k2 := h2
  have lt2 : ∀ x ∈ p2, x.block < W.heap.size := by obtain ⟨m, hm⟩ := k2; exact DataW.trod_lt m _ _ _ hm
  obtain ⟨s, C, rfl, hr, hsn, hws, hq, hb⟩ := open_stream (hval 2 30 v2 rfl rfl) h2
  clear hA0 hval0
  have hw := gram_any ks.a ks.c zs a1 s C W hrd hnil hr hsn hws hq hb
  rw [hlen] at hw
  refine hw.mono fun e W' ⟨he, bel⟩ => ?_
  subst he
  exact ⟨_, rfl, _, _, _, [], _, [], hW', trodAll_mk1 (shut_bool Try.underlying4 _), (trodAll_cons_mk (Below.trod laidOut (by kernel_rfl) (of_decide_eq_true (by kernel_rfl)) k0 bel lt0) (trodAll_cons_mk (shut_int Try.underlying3 w1) (trodAll_cons_mk (Below.trod laidOut (by kernel_rfl) (of_decide_eq_true (by kernel_rfl)) k2 bel lt2) trodAll_mk0))), rfl, bel.frame _, fun h => by cases h⟩

theorem closed : joinedFacts Try.prog 5 Try.f5 Rows.fnNumberRestMatchesNumberGrammarSpec Rows.fnNumberRestMatchesNumberGrammarRow = true := by
  unfold joinedFacts
  rw [Lead.mayEnter, Lead.liftsFinal, Lead.make]
  kernel_rfl

theorem over : Rows.fnNumberRestMatchesNumberGrammarRow.holds Try.pinned (OpenSpec.ofChange Rows.fnNumberRestMatchesNumberGrammarSpec) :=
  OpenClaim.holds_of_wide 5 Try.f5 rfl rfl rfl rfl rfl rfl rfl ⟨rfl, rfl, rfl, rfl, rfl⟩ rfl rfl rfl rfl rfl (by kernel_rfl) Try.func5 closed
    (of_decide_eq_true (by kernel_rfl)) (by unfold Func.isWrapper; first | (rw [if_pos (by decide +kernel)]; kernel_rfl) | (rw [if_neg (by decide +kernel)]; exact ⟨rfl, rfl⟩))
    (fun os started H enc _ => lifted os started H enc)

theorem proved : Rows.FnNumberRestMatchesNumberGrammarSaid := over
end Go.Proofs.Qxb6602575a.fnNumberRestMatchesNumberGrammar
namespace Go.Proofs.Qxb6602575a
theorem fnNumberRestMatchesNumberGrammar_proved : Rows.FnNumberRestMatchesNumberGrammarSaid := fnNumberRestMatchesNumberGrammar.proved
end Go.Proofs.Qxb6602575a
