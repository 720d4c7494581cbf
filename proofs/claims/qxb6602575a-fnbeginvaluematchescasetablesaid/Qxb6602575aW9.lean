import Derived.Test.Qxb6602575aW8
import Derived.Test.Qxb6602575aDfa
import Derived.Deep.WholeRow
import Derived.StillTailTactics
namespace Go.Proofs.Qxb6602575a
open Go.RowKit

/-- A struct literal whose cells are known, none of them looked at. -/
theorem wpList_build_to {P : Program} {ops : Array Oper} {rest : List Oper} {o : Oper} {a : Act} {w : World} {Q : Exit → Act → World → Prop} (hg : o.guard = none) (t : TypeId) (parts : Array (Nat × Operand)) (ho : o.op = .build t parts)
    (cells : Array Value) (hf : P.built t (parts.map fun (i, x) => (i, a.eval x)).toList = some cells)
    (h : wpList P ops Q rest (a.put o.dst (.agg cells)) w) : wpList P ops Q (o :: rest) a w :=
  wpList_build hg t parts ho (by rw [hf]; rfl) (by rw [hf]; exact h)

/-- A whole struct into the block that was made last. -/
theorem wpList_store_new {P : Program} {ops : Array Oper} {rest : List Oper} {o : Oper} {a : Act} {w0 : World} {Q : Exit → Act → World → Prop} (hgd : o.guard = none) (ty : TypeId) (x y : Operand) (ho : o.op = .store ty x y)
    (cells : Array Value) (old : Array Value) (hx : a.eval x = .pointer (some ⟨w0.heap.size, 0, none⟩)) (hy : a.eval y = .agg cells)
    (hi : (P.info? ty).map (·.size) = some cells.size) (hold : old.size = cells.size) (h1 : cells.all (·.oneCell') = true)
    (h : wpList P ops Q rest (a.put o.dst undef) (w0.alloc (.cells cells ty))) : wpList P ops Q (o :: rest) a (w0.alloc (.cells old ty)) :=
  wpList_store_row hgd ty x y ho w0.heap.size cells hx hy ty old (heap_alloc_last w0 _) hi hold h1 (by rw [World.setRow_alloc_new]; exact h)

/-- A region that draws: quiet operations, then a tail that waits for them all. The world and the operations under names. -/
theorem region_tail {P : Program} {id : Nat} {Q : Exit → Act → World → Prop} {a : Act} {w : World} {l : List Oper} (n : Nat) (hm : P.follows .mixedOrders = true) (hB : Region.lexTailB .any l.toArray n = true)
    (h : ∀ (W : World) (ops : Array Oper), W = w.drew → ops = l.toArray → wpStill P ops W (fun a' => wpList P ops Q (l.drop n) a' W) (l.take n) a) : (Code.region id l.toArray true).wp P Q a w :=
  wp_region_still_tail n hm hB (h w.drew l.toArray rfl rfl)

theorem Str.size (s : Str) : s.cells.size = 21 := rfl
theorem Str.one (s : Str) : s.cells.all (·.oneCell') = true := by
  simp [Str.cells, Value.oneCell']
theorem Try.info42 : (Try.prog.info? 42).map (·.size) = some 21 := by kernel_rfl

def fresh (q st : Int) : Str :=
  { path := nilS, limit := 0, closers := nilS, onPath := 0, state := st, number := q, word := ⟨#[]⟩, escaped := false, hex := 0, isName := false, naming := false,
    nameOver := false, named := false, name := nilS, maxName := 0, keepDepth := -1, keepFrom := 0, kept := nilS, over := false, found := false, broken := false }

theorem fresh_built (q st : Int) : Try.prog.built 42 [(5, .int .u8 q), (4, .int .u8 st), (15, .int .i64 (-1))] = some (fresh q st).cells := by kernel_rfl

set_option maxRecDepth 100000 in
theorem fresh_any (q st : Int) (w : World) :
    Calls Try.prog 29 #[.int .u8 q, .int .u8 st] w fun e w' => e = .returned (.agg (fresh q st).cells) ∧ Below w.heap.size w w' := by
  go_enter Try.func29, Try.ntmps29
  go_wp2_with (refine wpList_store_new (o := { dst := none, op := .store 42 (.tmp 4) (.tmp 7), type := _, pos := _, after := _, guard := _ }) rfl 42 _ _ rfl (fresh q st).cells _ rfl rfl Try.info42 rfl (Str.one _) ?_)
  exact bodyPost_ret (v := .agg (fresh q st).cells) (results_cell_row (p := 4) (ty := 42) rfl _ _ w.heap.size 42 _ _ _ rfl (heap_alloc_last _ _) Try.underlying42 rfl Try.info42) rfl ⟨rfl, (Below.refl _ _).alloc (Nat.le_refl _) _⟩

set_option maxHeartbeats 1000000 in
set_option maxRecDepth 100000 in
theorem newStream_any (s : Str) (w : World) :
    Calls Try.prog 22 #[.agg s.cells] w fun e w' => ∃ g, e = .returned (.pointer (some ⟨g, 0, none⟩)) ∧ w.heap.size ≤ g ∧ Strm w' g s ∧ Below w.heap.size w w' := by
  unfold Str.cells
  go_enter Try.func22, Try.ntmps22
  go_wp2
  go_ret
  refine ⟨w.heap.size + 1, rfl, by omega, ?_, ((Below.refl _ _).alloc (Nat.le_refl _) _).alloc (by simp) _⟩
  unfold Strm Str.cells
  have := heap_alloc_last (w.alloc (Obj.cells s.cells 42)) (Obj.cells s.cells 59)
  simp only [World.size_alloc] at this
  exact this

theorem view_built (s : Str) : Try.prog.built 42 [(0, s.path.v), (1, .int .i64 s.limit), (2, s.closers.v), (3, .int .i64 s.onPath), (4, .int .u8 s.state), (5, .int .u8 s.number), (6, .string s.word), (7, .bool s.escaped), (8, .int .i64 s.hex), (9, .bool s.isName), (10, .bool s.naming), (11, .bool s.nameOver), (12, .bool s.named), (13, s.name.v), (14, .int .i64 s.maxName), (15, .int .i64 s.keepDepth), (16, .int .i64 s.keepFrom), (17, s.kept.v), (18, .bool s.over), (19, .bool s.found), (20, .bool s.broken)] = some s.cells := by kernel_rfl

set_option maxHeartbeats 2000000 in
set_option maxRecDepth 100000 in
theorem viewOf_any (s : Str) (g : Nat) (w : World) (h : Strm w g s) :
    Calls Try.prog 26 #[.pointer (some ⟨g, 0, none⟩)] w fun e w' => e = .returned (.agg s.cells) ∧ Below w.heap.size w w' := by
  have hg := h.lt
  have HH : Hid (Strm w g s) := h
  clear h
  go_enter Try.func26, Try.ntmps26
  go_wp2_with fail
  simp only [List.append_eq, List.cons_append, List.nil_append]
  refine region_tail 84 (by kernel_rfl) (by kernel_rfl) ?_
  intro W ops hW hops
  clear hops
  have hs : Strm W g s := by
    have e : W.heap[g]? = w.heap[g]? := by rw [hW]; exact Below.heap_alloc w _ g hg
    unfold Strm; rw [e]; exact HH.out
  have HW : Hid (_) := hW
  clear hW HH
  have c0 : W.cell? ⟨g, 0, none⟩ = some s.path.v := hs.cell 0
  have c1 : W.cell? ⟨g, 1, none⟩ = some (.int .i64 s.limit) := hs.cell 1
  have c2 : W.cell? ⟨g, 2, none⟩ = some s.closers.v := hs.cell 2
  have c3 : W.cell? ⟨g, 3, none⟩ = some (.int .i64 s.onPath) := hs.cell 3
  have c4 : W.cell? ⟨g, 4, none⟩ = some (.int .u8 s.state) := hs.cell 4
  have c5 : W.cell? ⟨g, 5, none⟩ = some (.int .u8 s.number) := hs.cell 5
  have c6 : W.cell? ⟨g, 6, none⟩ = some (.string s.word) := hs.cell 6
  have c7 : W.cell? ⟨g, 7, none⟩ = some (.bool s.escaped) := hs.cell 7
  have c8 : W.cell? ⟨g, 8, none⟩ = some (.int .i64 s.hex) := hs.cell 8
  have c9 : W.cell? ⟨g, 9, none⟩ = some (.bool s.isName) := hs.cell 9
  have c10 : W.cell? ⟨g, 10, none⟩ = some (.bool s.naming) := hs.cell 10
  have c11 : W.cell? ⟨g, 11, none⟩ = some (.bool s.nameOver) := hs.cell 11
  have c12 : W.cell? ⟨g, 12, none⟩ = some (.bool s.named) := hs.cell 12
  have c13 : W.cell? ⟨g, 13, none⟩ = some s.name.v := hs.cell 13
  have c14 : W.cell? ⟨g, 14, none⟩ = some (.int .i64 s.maxName) := hs.cell 14
  have c15 : W.cell? ⟨g, 15, none⟩ = some (.int .i64 s.keepDepth) := hs.cell 15
  have c16 : W.cell? ⟨g, 16, none⟩ = some (.int .i64 s.keepFrom) := hs.cell 16
  have c17 : W.cell? ⟨g, 17, none⟩ = some s.kept.v := hs.cell 17
  have c18 : W.cell? ⟨g, 18, none⟩ = some (.bool s.over) := hs.cell 18
  have c19 : W.cell? ⟨g, 19, none⟩ = some (.bool s.found) := hs.cell 19
  have c20 : W.cell? ⟨g, 20, none⟩ = some (.bool s.broken) := hs.cell 20
  clear hs
  simp only [List.take_succ_cons, List.take_zero, List.drop_succ_cons, List.drop_zero]
  repeat still_step
  refine wpStill_nil ?_
  have hW := HW.out
  subst hW
  refine wpList_build_to rfl 42 _ rfl s.cells (by simpa [Act.eval] using view_built s) ?_
  go_simp
  refine wpList_store_new (w0 := w.drew) rfl 42 _ _ rfl s.cells _ rfl rfl Try.info42 rfl (Str.one _) ?_
  go_wp2_with fail
  exact bodyPost_ret (v := .agg s.cells) (results_cell_row (p := 2) (ty := 42) rfl _ _ w.heap.size 42 _ _ _ rfl (heap_alloc_last w.drew _) Try.underlying42 rfl Try.info42) rfl ⟨rfl, ((Below.refl _ _).drew).alloc (Nat.le_refl _) _⟩
end Go.Proofs.Qxb6602575a
