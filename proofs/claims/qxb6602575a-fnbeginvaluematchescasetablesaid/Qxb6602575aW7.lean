import Derived.Test.Qxb6602575aW3
namespace Go.Proofs.Qxb6602575a
open Go.RowKit

/-- A slice's address, length and capacity. -/
structure Sl where
  a : Option Addr
  n : Nat
  c : Nat
abbrev Sl.v (s : Sl) : Value := .slice s.a s.n s.c
def nilS : Sl := ⟨none, 0, 0⟩

/-- The fields of a LookupStream (and of its view), as values. -/
structure Str where
  path : Sl
  limit : Int
  closers : Sl
  onPath : Int
  state : Int
  number : Int
  word : ByteArray
  escaped : Bool
  hex : Int
  isName : Bool
  naming : Bool
  nameOver : Bool
  named : Bool
  name : Sl
  maxName : Int
  keepDepth : Int
  keepFrom : Int
  kept : Sl
  over : Bool
  found : Bool
  broken : Bool

def Str.cells (s : Str) : Array Value :=
  #[s.path.v, .int .i64 s.limit, s.closers.v, .int .i64 s.onPath, .int .u8 s.state, .int .u8 s.number, (.string s.word), .bool s.escaped, .int .i64 s.hex, .bool s.isName, .bool s.naming,
    .bool s.nameOver, .bool s.named, s.name.v, .int .i64 s.maxName, .int .i64 s.keepDepth, .int .i64 s.keepFrom, s.kept.v, .bool s.over, .bool s.found, .bool s.broken]

/-- A stream lies in block g. -/
def Strm (w : World) (g : Nat) (s : Str) : Prop := w.heap[g]? = some (.cells s.cells 59 (0, 0))

theorem Strm.cell {w : World} {g : Nat} {s : Str} (h : Strm w g s) (k : Nat) : w.cell? ⟨g, k, none⟩ = s.cells[k]? := by
  unfold Strm at h; simp [World.cell?, h]
theorem Strm.free {w : World} {g : Nat} {s : Str} (h : Strm w g s) (k : Nat) : w.frozen? ⟨g, k, none⟩ = false := by
  unfold Strm at h; simp [World.frozen?, h]
theorem Strm.lt {w : World} {g : Nat} {s : Str} (h : Strm w g s) : g < w.heap.size := lt_of_block h

theorem cells_setCell {w : World} {b k : Nat} {cs : Array Value} {t : TypeId} {fr : Nat × Nat} {u : Value} (h : w.heap[b]? = some (.cells cs t fr)) : (w.setCell ⟨b, k, none⟩ u).heap[b]? = some (.cells (cs.setIfInBounds k u) t fr) := by
  have hlt := lt_of_block h
  have h' : w.heap[b] = .cells cs t fr := by simpa [Array.getElem?_eq_getElem hlt] using h
  show (w.heap.modify b _)[b]? = _
  rw [Array.getElem?_eq_getElem (by simpa using hlt), Array.getElem_modify_self, h']
  rfl

theorem Strm.set {w : World} {g : Nat} {s : Str} (h : Strm w g s) (k : Nat) (u : Value) (s' : Str) (e : s.cells.setIfInBounds k u = s'.cells) : Strm (w.setCell ⟨g, k, none⟩ u) g s' := by
  unfold Strm; rw [cells_setCell h, e]

theorem Strm.number {w : World} {g : Nat} {s : Str} (h : Strm w g s) (q : Int) : Strm (w.setCell ⟨g, 5, none⟩ (.int .u8 q)) g { s with number := q } := h.set _ _ _ rfl
theorem Strm.state {w : World} {g : Nat} {s : Str} (h : Strm w g s) (q : Int) : Strm (w.setCell ⟨g, 4, none⟩ (.int .u8 q)) g { s with state := q } := h.set _ _ _ rfl
theorem Strm.broken {w : World} {g : Nat} {s : Str} (h : Strm w g s) (q : Bool) : Strm (w.setCell ⟨g, 20, none⟩ (.bool q)) g { s with broken := q } := h.set _ _ _ rfl

/-- From w to w' only block g has turned, and new blocks have come. -/
structure Only (g : Nat) (w w' : World) : Prop where
  os : w'.os = w.os
  tape : w'.tape = w.tape
  output : w'.output = w.output
  size : w.heap.size ≤ w'.heap.size
  block : ∀ k, k < w.heap.size → k ≠ g → w'.heap[k]? = w.heap[k]?

theorem Only.refl (g : Nat) (w : World) : Only g w w := ⟨rfl, rfl, rfl, Nat.le_refl _, fun _ _ _ => rfl⟩
theorem Only.trans {g : Nat} {a b c : World} (h : Only g a b) (k : Only g b c) : Only g a c :=
  ⟨k.os.trans h.os, k.tape.trans h.tape, k.output.trans h.output, Nat.le_trans h.size k.size, fun j h1 h2 => (k.block j (Nat.lt_of_lt_of_le h1 h.size) h2).trans (h.block j h1 h2)⟩
theorem Only.setCell {g : Nat} {a w : World} (h : Only g a w) (k : Nat) (u : Value) : Only g a (w.setCell ⟨g, k, none⟩ u) :=
  ⟨h.os, h.tape, h.output, by show _ ≤ (w.heap.modify g _).size; simpa using h.size, fun j h1 h2 => (Below.heap_setCell w _ u j h2).trans (h.block j h1 h2)⟩
theorem Only.drew {g : Nat} {a w : World} (h : Only g a w) : Only g a w.drew := ⟨h.os, h.tape, h.output, h.size, h.block⟩
theorem Only.below {g B : Nat} {a w : World} (h : Only g a w) (hB : B ≤ g) (hB' : B ≤ a.heap.size) : Below B a w :=
  ⟨h.os, h.tape, h.output, h.size, fun k hk => h.block k (by omega) (by omega)⟩
theorem Only.of_below {g : Nat} {a w : World} (h : Below a.heap.size a w) : Only g a w :=
  ⟨h.os, h.tape, h.output, h.size, fun k hk _ => h.block k hk⟩

/-- A row of the call's own, all of it elements: stays so while only a block of another kind turns. -/
theorem own_only {w w' : World} {base e size g : Nat} {v : Value} {n : Nat} {xs : List Value} {o : Obj} (h : w.ownsRow base e size v n xs) (hg : w.heap[g]? = some o) (ho : ∀ cs fr, o ≠ .cells cs e fr) (hb : Only g w w') : w'.ownsRow base e size v n xs := by
  obtain ⟨hl, h | ⟨g', cap, cur, h1, h2, h3, h4, h5, h6, h7⟩⟩ := h
  · exact ⟨hl, .inl h⟩
  · refine ⟨hl, .inr ⟨g', cap, cur, h1, h2, ?_, h4, h5, h6, h7⟩⟩
    rw [hb.block g' (lt_of_block h3) (by rintro rfl; rw [h3] at hg; exact ho _ _ (Option.some.inj hg).symm)]
    exact h3

theorem own_strm {w w' : World} {base e size g : Nat} {v : Value} {n : Nat} {xs : List Value} {s : Str} (h : w.ownsRow base e size v n xs) (hg : Strm w g s) (he : e ≠ 59) (hb : Only g w w') : w'.ownsRow base e size v n xs :=
  own_only h hg (fun cs fr c => by cases c; exact he rfl) hb
end Go.Proofs.Qxb6602575a
