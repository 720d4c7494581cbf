/-
  No cell of these rows narrows 'for every input' (looked for: loops, veiled, ifaces, maps, wideKeys, modest, calm, conditions, laid).
  DERIVED. THE GIVEN ROWS OF THIS SEAT. 2 by the template 'for every input the law returns true; each argument reads behind the call as it read before'; 0 by the template 'total and deterministic' (their statements: Qxb6603658aTotals.lean).
  GIVEN WITH THE SEED: the statements are not yours to turn. If you find one false, say at which input.
  Laid BY PROGRAM, IN A SANDBOX (cutbox-rows.mjs): the forced cells as the released guide's own fill.sh prints them over the translation a05ea7e3f40daf2f… (all of the seat's roots in one cut). By AI agents, Wed Nov 11 2026. No macro, syntax, notation, axiom, sorry.
-/
import Derived.Test.Qxb6603658aChecked
import GoSem.Claim
import GoSem.ClaimJoined
import GoSem.ClaimMapViews
import Derived.JoinedTies
import Derived.KernelRfl
namespace Go.Proofs.Qxb6603658a
/- THE CELL 'sum', in the pinned program and in every row, IS THE sha256 OF THE DUMP (.gsa) THAT Qxb6603658aProg.lean LOADS. Nothing in Lean hashes anything: it is a label: what it is worth is what the hold of that sum in a sandbox is worth. -/
noncomputable def Try.pinned : Pinned := { name := "qxb6603658a", sum := "a05ea7e3f40daf2f1d14cb08dfb97a3d80edb595c60aa43e72cefdbdfb10f14e", checked := Try.checked }
namespace Rows
def none {H : Type} : Left H := { results := [], args := [] }

/-- 'zzlaws_internal_dispatch_b1.FnHoldingsExact': WHATEVER THE INPUT: true; the input reads as it did. -/
def fnHoldingsExactSpec : ChangeSpec := { name := "fnHoldingsExact", fn := fun _ => fun
  | [d1, d2] => { results := [.lit (.bool true)], args := [d1, d2] }
  | _ => none }
def fnHoldingsExactRow : OpenClaim := { program := "qxb6603658a", sum := "a05ea7e3f40daf2f1d14cb08dfb97a3d80edb595c60aa43e72cefdbdfb10f14e", func := "example.com/meritcast/meritcast/zzlaws_internal_dispatch_b1.FnHoldingsExact", spec := "fnHoldingsExact", apart := false }
def FnHoldingsExactSaid : Prop := fnHoldingsExactRow.holds Try.pinned (OpenSpec.ofChange fnHoldingsExactSpec)

/-- ITS FALSE NEIGHBOUR: 'it returns false'. Refute it at one input. -/
def fnHoldingsExactWrong : ChangeSpec := { name := "fnHoldingsExact", fn := fun _ => fun
  | [d1, d2] => { results := [.lit (.bool false)], args := [d1, d2] }
  | _ => none }
def FnHoldingsExactWrongFalsely : Prop := fnHoldingsExactRow.holds Try.pinned (OpenSpec.ofChange fnHoldingsExactWrong)

/-- 'zzlaws_internal_dispatch_b1.FnHoldingsSplits': WHATEVER THE INPUT: true; the input reads as it did. -/
def fnHoldingsSplitsSpec : ChangeSpec := { name := "fnHoldingsSplits", fn := fun _ => fun
  | [d1, d2] => { results := [.lit (.bool true)], args := [d1, d2] }
  | _ => none }
def fnHoldingsSplitsRow : OpenClaim := { program := "qxb6603658a", sum := "a05ea7e3f40daf2f1d14cb08dfb97a3d80edb595c60aa43e72cefdbdfb10f14e", func := "example.com/meritcast/meritcast/zzlaws_internal_dispatch_b1.FnHoldingsSplits", spec := "fnHoldingsSplits", apart := false }
def FnHoldingsSplitsSaid : Prop := fnHoldingsSplitsRow.holds Try.pinned (OpenSpec.ofChange fnHoldingsSplitsSpec)

/-- ITS FALSE NEIGHBOUR: 'it returns false'. Refute it at one input. -/
def fnHoldingsSplitsWrong : ChangeSpec := { name := "fnHoldingsSplits", fn := fun _ => fun
  | [d1, d2] => { results := [.lit (.bool false)], args := [d1, d2] }
  | _ => none }
def FnHoldingsSplitsWrongFalsely : Prop := fnHoldingsSplitsRow.holds Try.pinned (OpenSpec.ofChange fnHoldingsSplitsWrong)

end Rows
end Go.Proofs.Qxb6603658a
