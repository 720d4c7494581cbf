import Derived.Test.Qxb6602575aW30
import Derived.Test.Qxb6602575aW31
import Derived.Test.Qxb6602575aW32
import Derived.Test.Qxb6602575aW23
import Derived.Test.Qxb6602575aW17
import Derived.Deep.RegionHeld3
namespace Go.Proofs.Qxb6602575a
open Go.RowKit

theorem _root_.Go.RowKit.Below.trans' {a b c : World} (h : Below a.heap.size a b) (k : Below b.heap.size b c) : Below a.heap.size a c := h.trans (k.mono h.size)

theorem below_of_drew {B : Nat} {w w' : World} (h : Below B w.drew w') : Below B w w' := ⟨h.os, h.tape, h.output, h.size, h.block⟩

theorem yieldsIf_load_row {P : Program} {ops : Array Oper} {S : World → Prop} {o : Oper} {a : Act} (hw : Region.wanted o (yielded ops a.tmps) = true) (ty : TypeId) (x : Operand) (ho : o.op = .load ty x) (g : Nat) (hx : a.eval x = .pointer (some ⟨g, 0, none⟩))
    (t : TypeId) (cs : Array Value) (d : TypeDesc) (hg : ∀ w, S w → Blk w g t cs) (hu : P.underlying ty = some d) (hd : (match d with | .struct _ | .array _ _ => true | _ => false) = true) (hi : (P.info? ty).map (·.size) = some cs.size) : YieldsIf P ops S o (.agg cs) a :=
  Or.inl ⟨hw, fun w hS => by simp [execOp, ho, hx, Instr.loadAt, Instr.sureAddr, run_loadVar_row w g t ty cs (0, 0) d (hg w hS) hu hd hi, Result.andThen]⟩
theorem Owned.kept0 {w : World} {base : Nat} {s : Str} {C : Con} (h : Owned w base s C) : w.ownsRow 0 5 1 s.kept.v s.kept.n (bys C.kept) := own_base h.kept (Nat.zero_le _)

theorem step_num {c : Int} (h : numc c = true) : Pl.step 8 c = some (phc c) := by
  unfold numc at h
  rw [Bool.or_eq_true, beq_iff_eq] at h
  unfold phc
  by_cases h45 : c = 45
  · simp [Pl.step, h45]
  · have hd : Pl.dig c = true := by rcases h with h | h; · exact absurd h h45
                                    · exact h
    by_cases h48 : c = 48
    · simp [Pl.step, h48]
    · simp [Pl.step, h45, h48, hd]
theorem phc_le (c : Int) : phc c ≤ 7 := by unfold phc; split; · omega
                                           · split <;> omega
theorem phc_text (c : Int) : (phText (phc c)).length = 1 := by
  unfold phc
  split
  · rfl
  · split <;> rfl

theorem drop_bt (zs : List Int) (i : Nat) (h : i < zs.length) : zs.drop i = Pl.bt zs i :: zs.drop (i + 1) := by
  rw [List.drop_eq_getElem_cons h]; unfold Pl.bt; simp [h]

theorem scan_pos {zs : List Int} {i : Nat} (hi : i < zs.length) (hnum : numc (Pl.bt zs i) = true) : 1 ≤ (Pl.run 8 ([] ++ zs.drop i)).1 := by
  rw [List.nil_append, drop_bt zs i hi, Pl.run_some _ (step_num hnum)]
  simp

theorem scan_first {zs : List Int} {i : Nat} {used : Int} {ended bad : Bool} {phn : Nat} (hi : i < zs.length) (hnum : numc (Pl.bt zs i) = true) (hsc : Scan ([] ++ zs.drop i) 0 (zs.length - i) used ended bad phn) :
    ∃ used' : Int, Scan (phText (phc (Pl.bt zs i)) ++ zs.drop (i + 1)) (phText (phc (Pl.bt zs i))).length (zs.length - (i + 1)) used' ended bad phn ∧ (ended = true → (i : Int) + used = ((i + 1 : Nat) : Int) + used') := by
  unfold Scan at hsc ⊢
  rw [List.nil_append, drop_bt zs i hi, Pl.run_some _ (step_num hnum)] at hsc
  rw [Pl.run_pre _ (phc_le _)]
  simp only [List.length_cons, List.length_append, List.length_drop, phc_text] at hsc ⊢
  rcases hsc with ⟨h1, rfl, rfl, rfl, rfl⟩ | ⟨h1, h2, rfl, rfl, rfl, rfl⟩ | ⟨h1, h2, rfl, rfl, rfl, rfl⟩
  · exact ⟨((zs.length - (i + 1) : Nat) : Int), .inl ⟨by omega, rfl, rfl, rfl, rfl⟩, fun h => by cases h⟩
  · exact ⟨((Pl.run (phc (Pl.bt zs i)) (zs.drop (i + 1))).1 : Int), .inr (.inl ⟨by omega, h2, by omega, rfl, rfl, rfl⟩), fun _ => by omega⟩
  · exact ⟨0, .inr (.inr ⟨by omega, h2, rfl, rfl, rfl, rfl⟩), fun h => by cases h⟩
end Go.Proofs.Qxb6602575a
