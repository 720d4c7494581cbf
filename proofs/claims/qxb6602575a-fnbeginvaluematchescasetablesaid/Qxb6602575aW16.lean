import Derived.Test.Qxb6602575aW13
import Derived.Test.Qxb6602575aW9
namespace Go.Proofs.Qxb6602575a
open Go.RowKit

/-- The cells of a Jsb1Stream. -/
def Str.cells30 (s : Str) : Array Value :=
  #[s.path.v, .int .i64 s.limit, s.closers.v, .int .i64 s.onPath, .int .u8 s.state, .int .u8 s.number, (.string s.word), .bool s.escaped, .int .i64 s.hex, .bool s.isName, .bool s.naming,
    .bool s.nameOver, .bool s.named, s.name.v, .int .i64 s.maxName, .int .i64 s.keepDepth, .int .i64 s.keepFrom, s.kept.v, .bool s.over, .bool s.found]
theorem Str.one30 (s : Str) : s.cells30.all (·.oneCell') = true := by
  simp [Str.cells30, Value.oneCell']
theorem Try.info30 : (Try.prog.info? 30).map (·.size) = some 20 := by kernel_rfl

/-- A whole struct into the block that was made last, its number as the walk spells it. -/
theorem wpList_store_newg {P : Program} {ops : Array Oper} {rest : List Oper} {o : Oper} {a : Act} {w0 : World} {Q : Exit → Act → World → Prop} (hgd : o.guard = none) (ty : TypeId) (x y : Operand) (ho : o.op = .store ty x y)
    (cells : Array Value) (old : Array Value) (g : Nat) (hg : g = w0.heap.size) (hx : a.eval x = .pointer (some ⟨g, 0, none⟩)) (hy : a.eval y = .agg cells)
    (hi : (P.info? ty).map (·.size) = some cells.size) (hold : old.size = cells.size) (h1 : cells.all (·.oneCell') = true)
    (h : wpList P ops Q rest (a.put o.dst undef) (w0.alloc (.cells cells ty))) : wpList P ops Q (o :: rest) a (w0.alloc (.cells old ty)) := by
  subst hg
  exact wpList_store_new hgd ty x y ho cells old hx hy hi hold h1 h

/-- A struct in block g. -/
def Blk (w : World) (g t : Nat) (cs : Array Value) : Prop := w.heap[g]? = some (.cells cs t (0, 0))
theorem Blk.cell {w : World} {g t : Nat} {cs : Array Value} (h : Blk w g t cs) (k : Nat) : w.cell? ⟨g, k, none⟩ = cs[k]? := cell_of_row _ _ k _ _ _ h
theorem Blk.free {w : World} {g t : Nat} {cs : Array Value} (h : Blk w g t cs) (k : Nat) : w.frozen? ⟨g, k, none⟩ = false := by
  unfold Blk at h; simp [World.frozen?, h]
theorem Blk.lt {w : World} {g t : Nat} {cs : Array Value} (h : Blk w g t cs) : g < w.heap.size := lt_of_block h
theorem Blk.below {w w' : World} {g t : Nat} {cs : Array Value} (h : Blk w g t cs) (hb : Below w.heap.size w w') : Blk w' g t cs := by
  unfold Blk; rw [hb.block g h.lt]; exact h
theorem Blk.set {w : World} {g t : Nat} {cs cs' : Array Value} (h : Blk w g t cs) (k : Nat) (u : Value) (e : cs.setIfInBounds k u = cs') : Blk (w.setCell ⟨g, k, none⟩ u) g t cs' := by
  unfold Blk; rw [cells_setCell h, e]
theorem Blk.other {w : World} {g t : Nat} {cs : Array Value} (h : Blk w g t cs) {g' : Nat} (k : Nat) (u : Value) (hg : g ≠ g') : Blk (w.setCell ⟨g', k, none⟩ u) g t cs := by
  unfold Blk; rw [Below.heap_setCell w _ u g hg]; exact h
theorem Blk.last (w : World) (t : Nat) (cs : Array Value) : Blk (w.alloc (.cells cs t)) w.heap.size t cs := heap_alloc_last w _
theorem Blk.alloc {w : World} {g t : Nat} {cs : Array Value} (h : Blk w g t cs) (o : Obj) : Blk (w.alloc o) g t cs := by
  unfold Blk; rw [Below.heap_alloc w o g h.lt]; exact h
theorem Blk.drewN {w : World} {g t : Nat} {cs : Array Value} (h : Blk w g t cs) (n : Nat) : Blk (w.drewN n) g t cs := h

/-- What the slices of a stream hold. -/
structure Con where
  path : List ByteArray
  closers : List Int
  name : List Int
  kept : List Int

/-- The slices of s read as C says. -/
structure Reads (w : World) (s : Str) (C : Con) : Prop where
  path : RdS w s.path.a C.path
  pathN : C.path.length = s.path.n
  closers : Rd w s.closers.a C.closers
  closersN : C.closers.length = s.closers.n
  name : Rd w s.name.a C.name
  nameN : C.name.length = s.name.n
  kept : Rd w s.kept.a C.kept
  keptN : C.kept.length = s.kept.n

theorem Reads.below {w w' : World} {s : Str} {C : Con} (h : Reads w s C) (hb : Below w.heap.size w w') : Reads w' s C :=
  ⟨rds_below h.path hb, h.pathN, rd_below h.closers hb, h.closersN, rd_below h.name hb, h.nameN, rd_below h.kept hb, h.keptN⟩

/-- .. and are nil where they lead nowhere, and not too long. -/
structure Sound (s : Str) : Prop where
  path : s.path.a = none → s.path.c = 0
  closers : s.closers.a = none → s.closers.c = 0
  name : s.name.a = none → s.name.c = 0
  kept : s.kept.a = none → s.kept.c = 0
  pathL : s.path.n ≤ 1048576
  closersL : s.closers.n ≤ 1048576
  nameL : s.name.n ≤ 1048576
  keptL : s.kept.n ≤ 1048576

/-- The slices of s are the call's own, full. -/
structure Owned (w : World) (base : Nat) (s : Str) (C : Con) : Prop where
  path : w.ownsRow base 9 1 s.path.v s.path.n (strs C.path)
  pathC : s.path.c = s.path.n
  closers : w.ownsRow base 5 1 s.closers.v s.closers.n (bys C.closers)
  closersC : s.closers.c = s.closers.n
  name : w.ownsRow base 5 1 s.name.v s.name.n (bys C.name)
  nameC : s.name.c = s.name.n
  kept : w.ownsRow base 5 1 s.kept.v s.kept.n (bys C.kept)
  keptC : s.kept.c = s.kept.n

theorem Owned.below {w w' : World} {base : Nat} {s : Str} {C : Con} (h : Owned w base s C) (hb : Below w.heap.size w w') : Owned w' base s C :=
  ⟨owns_below h.path hb, h.pathC, owns_below h.closers hb, h.closersC, owns_below h.name hb, h.nameC, owns_below h.kept hb, h.keptC⟩
theorem owns_len {w : World} {base e n : Nat} {v : Value} {xs : List Value} (h : w.ownsRow base e 1 v n xs) : xs.length = n := by have := h.1; omega
theorem Owned.reads {w : World} {base : Nat} {s : Str} {C : Con} (h : Owned w base s C) : Reads w s C :=
  ⟨rds_of_owns h.path, by have := owns_len h.path; rwa [strs_length] at this, rd_of_owns h.closers, by have := owns_len h.closers; rwa [bys_length] at this, rd_of_owns h.name, by have := owns_len h.name; rwa [bys_length] at this,
   rd_of_owns h.kept, by have := owns_len h.kept; rwa [bys_length] at this⟩

end Go.Proofs.Qxb6602575a
