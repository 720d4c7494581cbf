import Derived.Test.Qxb6602575aW16
namespace Go.Proofs.Qxb6602575a
open Go.RowKit

set_option maxHeartbeats 2000000 in
set_option maxRecDepth 100000 in
theorem toView_any (s : Str) (w : World) (hb : s.broken = false) :
    Calls Try.prog 23 #[.agg s.cells30] w fun e w' => e = .returned (.agg s.cells) ∧ Below w.heap.size w w' := by
  have hcells : s.cells = ({ s with broken := false } : Str).cells := by rw [← hb]
  rw [hcells]
  clear hcells hb
  unfold Str.cells30
  go_enter Try.func23, Try.ntmps23
  go_wp2_with (refine wpList_store_newg (o := { dst := none, op := .store 42 (.tmp 2) (.tmp 43), type := _, pos := _, after := _, guard := _ }) rfl 42 _ _ rfl ({ s with broken := false } : Str).cells _ (w.heap.size + 1) (by simp) rfl rfl Try.info42 rfl (Str.one _) ?_)
  exact bodyPost_ret (v := .agg ({ s with broken := false } : Str).cells) (results_cell_row (p := 2) (ty := 42) rfl _ _ (w.heap.size + 1) 42 _ _ _ rfl (by rw [← World.size_alloc w]; exact heap_alloc_last _ _) Try.underlying42 rfl Try.info42) rfl ⟨rfl, ((Below.refl _ _).alloc (Nat.le_refl _) _).alloc (by simp) _⟩
end Go.Proofs.Qxb6602575a
