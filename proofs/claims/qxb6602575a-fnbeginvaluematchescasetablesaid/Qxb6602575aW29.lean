import Derived.Test.Qxb6602575aW28
namespace Go.Proofs.Qxb6602575a
open Go.RowKit

/-- The stream behind the beginning of a named value, its kept slice k. -/
def tN (s : Str) (i : Int) (k : Sl) : Str :=
  if s.named = true then (if s.onPath = (s.path.n : Int) then { s with named := false, found := false, keepDepth := s.closers.n, keepFrom := i, kept := k, over := false } else { s with named := false, found := false, kept := k }) else { s with kept := k }
def kN (s : Str) (ks : List Int) : List Int := if s.named = true ∧ s.onPath = (s.path.n : Int) then [] else ks
def entN (s : Str) (c : Int) : Bool := s.named && !(s.onPath == (s.path.n : Int)) && (c == 123)
def bump (s : Str) (b : Bool) : Int := if b then wrap64 (s.onPath + 1) else s.onPath
/-- Does a value that begins with c begin as a number; and in which phase? -/
def numc (c : Int) : Bool := c == 45 || Pl.dig c
def phc (c : Int) : Nat := if c = 45 then 0 else if c = 48 then 1 else 2

structure BOut where
  ret : Int
  bad : Bool
  S : Sl → Sl → Str
  kc : List Int
  cc : List Int

/-- The case table. -/
def table (s : Str) (C : Con) (zs : List Int) (i : Nat) (used : Int) (ended bad : Bool) (phn : Nat) : BOut :=
  if Pl.bt zs i = 123 ∨ Pl.bt zs i = 91 then
    (if s.closers.n = 10000 then ⟨zs.length, true, fun k cl => { tN s i k with closers := cl }, kN s C.kept, C.closers⟩
    else ⟨((i + 1 : Nat) : Int), false, fun k cl => { tN s i k with closers := cl, state := if Pl.bt zs i = 123 then 1 else 4, onPath := bump s (entN s (Pl.bt zs i)) }, kN s C.kept, C.closers ++ [if Pl.bt zs i = 123 then 125 else 93]⟩)
  else if Pl.bt zs i = 34 then ⟨((i + 1 : Nat) : Int), false, fun k cl => { tN s i k with closers := cl, isName := false, naming := false, state := 8 }, kN s C.kept, C.closers⟩
  else if Pl.bt zs i = 116 then ⟨((i + 1 : Nat) : Int), false, fun k cl => { tN s i k with closers := cl, word := ⟨#[114, 117, 101]⟩, state := 10 }, kN s C.kept, C.closers⟩
  else if Pl.bt zs i = 102 then ⟨((i + 1 : Nat) : Int), false, fun k cl => { tN s i k with closers := cl, word := ⟨#[97, 108, 115, 101]⟩, state := 10 }, kN s C.kept, C.closers⟩
  else if Pl.bt zs i = 110 then ⟨((i + 1 : Nat) : Int), false, fun k cl => { tN s i k with closers := cl, word := ⟨#[117, 108, 108]⟩, state := 10 }, kN s C.kept, C.closers⟩
  else if numc (Pl.bt zs i) = true then ⟨if ended then ((i + 1 : Nat) : Int) + used else zs.length, bad,
      fun k cl => { fin ended { tN s i k with number := (phn : Nat), state := 9 } (kN s C.kept) zs (((i + 1 : Nat) : Int) + used).toNat k with closers := cl },
      finC ended { tN s i nilS with number := (phn : Nat), state := 9 } (kN s C.kept) zs (((i + 1 : Nat) : Int) + used).toNat, C.closers⟩
  else ⟨zs.length, true, fun k cl => { tN s i k with closers := cl }, kN s C.kept, C.closers⟩

/-- What beginValue leaves. -/
def BV (wm : World) (g : Nat) (o : BOut) (e : Ending) (w' : World) : Prop :=
  ∃ k cl : Sl, e = .returned (.int .i64 o.ret) ∧ Strm w' g { o.S k cl with broken := o.bad } ∧ w'.ownsRow wm.heap.size 5 1 k.v k.n (bys o.kc) ∧ w'.ownsRow 0 5 1 cl.v cl.n (bys o.cc) ∧ Below wm.heap.size wm w'

def NM (wm : World) (g : Nat) (s : Str) (i : Int) (ks : List Int) (wx : World) : Prop :=
  ∃ k : Sl, Strm wx g (tN s i k) ∧ wx.ownsRow wm.heap.size 5 1 k.v k.n (bys (kN s ks)) ∧ Below wm.heap.size wm wx

theorem Strm.named {w : World} {g : Nat} {s : Str} (h : Strm w g s) (b : Bool) : Strm (w.setCell ⟨g, 12, none⟩ (.bool b)) g { s with named := b } := h.set _ _ _ rfl
theorem Strm.keepFrom {w : World} {g : Nat} {s : Str} (h : Strm w g s) (b : Int) : Strm (w.setCell ⟨g, 16, none⟩ (.int .i64 b)) g { s with keepFrom := b } := h.set _ _ _ rfl
theorem Strm.closers {w : World} {g : Nat} {s : Str} (h : Strm w g s) (k : Sl) : Strm (w.setCell ⟨g, 2, none⟩ k.v) g { s with closers := k } := h.set _ _ _ rfl
theorem Strm.onPath {w : World} {g : Nat} {s : Str} (h : Strm w g s) (b : Int) : Strm (w.setCell ⟨g, 3, none⟩ (.int .i64 b)) g { s with onPath := b } := h.set _ _ _ rfl
theorem Strm.word {w : World} {g : Nat} {s : Str} (h : Strm w g s) (b : ByteArray) : Strm (w.setCell ⟨g, 6, none⟩ (.string b)) g { s with word := b } := h.set _ _ _ rfl
theorem Strm.isName {w : World} {g : Nat} {s : Str} (h : Strm w g s) (b : Bool) : Strm (w.setCell ⟨g, 9, none⟩ (.bool b)) g { s with isName := b } := h.set _ _ _ rfl
theorem Strm.naming {w : World} {g : Nat} {s : Str} (h : Strm w g s) (b : Bool) : Strm (w.setCell ⟨g, 10, none⟩ (.bool b)) g { s with naming := b } := h.set _ _ _ rfl

theorem fail_any (g : Nat) (s : Str) (ao : Option Addr) (n c : Nat) (w : World) (h : Strm w g s) :
    Calls Try.prog 47 #[.pointer (some ⟨g, 0, none⟩), .slice ao n c] w fun e w' => e = .returned (.int .i64 n) ∧ w' = w.setCell ⟨g, 20, none⟩ (.bool true) := by
  have c20 : w.cell? ⟨g, 20, none⟩ = some (.bool s.broken) := h.cell 20
  have f20 := h.free 20
  clear h
  go_enter Try.func47, Try.ntmps47
  go_wp2
  go_ret
  exact ⟨rfl, rfl⟩

theorem tN_closers (s : Str) (i : Int) (k : Sl) : (tN s i k).closers = s.closers := by
  unfold tN
  split
  · split <;> rfl
  · rfl
theorem tN_broken (s : Str) (i : Int) (k : Sl) : (tN s i k).broken = s.broken := by
  unfold tN
  split
  · split <;> rfl
  · rfl
theorem tN_onPath (s : Str) (i : Int) (k : Sl) : (tN s i k).onPath = s.onPath := by
  unfold tN
  split
  · split <;> rfl
  · rfl
theorem tN_kept (s : Str) (i : Int) (k : Sl) : (tN s i k).kept = k := by
  unfold tN
  split
  · split <;> rfl
  · rfl

theorem kN_le (s : Str) (ks : List Int) : (kN s ks).length ≤ ks.length := by
  unfold kN; split
  · exact Nat.zero_le _
  · exact Nat.le_refl _

/-- Where a number is kept from. -/
theorem tN_from {s T : Str} {i : Nat} {k : Sl} (hT : T = tN s (i : Int) k) (hf : ¬ (s.named = true ∧ s.onPath = (s.path.n : Int)) → s.keepDepth = (s.closers.n : Int) → 0 ≤ s.keepFrom ∧ s.keepFrom ≤ i) :
    T.keepDepth = (s.closers.n : Int) → 0 ≤ T.keepFrom ∧ T.keepFrom ≤ ((i + 1 : Nat) : Int) := by
  subst hT
  intro h
  unfold tN at h ⊢
  by_cases h1 : s.named = true
  · rw [if_pos h1] at h ⊢
    by_cases h2 : s.onPath = (s.path.n : Int)
    · rw [if_pos h2]; exact ⟨by show (0 : Int) ≤ (i : Int); omega, by show (i : Int) ≤ _; omega⟩
    · rw [if_neg h2] at h ⊢
      obtain ⟨h3, h4⟩ := hf (fun hh => h2 hh.2) h
      exact ⟨h3, by show s.keepFrom ≤ _; omega⟩
  · rw [if_neg h1] at h ⊢
    obtain ⟨h3, h4⟩ := hf (fun hh => h1 hh.1) h
    exact ⟨h3, by show s.keepFrom ≤ _; omega⟩

theorem tN_put (s : Str) (i : Int) (k k2 : Sl) : ({ tN s i k with kept := k2 } : Str) = tN s i k2 := by
  unfold tN
  split
  · split <;> rfl
  · rfl

/-- fin does not look at the slice that was kept before. -/
theorem fin_put (ended : Bool) (s : Str) (ks zs : List Int) (E : Nat) (k k2 : Sl) : fin ended { s with kept := k } ks zs E k2 = fin ended s ks zs E k2 := by
  cases ended with
  | false => rfl
  | true =>
    show endS { s with kept := k } ks zs E k2 = endS s ks zs E k2
    unfold endS
    show (if s.keepDepth = (s.closers.n : Int) then _ else _) = (if s.keepDepth = (s.closers.n : Int) then _ else _)
    split <;> rfl
theorem finC_put (ended : Bool) (s : Str) (ks zs : List Int) (E : Nat) (k : Sl) : finC ended { s with kept := k } ks zs E = finC ended s ks zs E := by
  cases ended <;> rfl

theorem num_S {s T : Str} {i : Int} {k : Sl} (hT : T = tN s i k) (hTc : T.closers = s.closers) (ended bad : Bool) (phn : Nat) (ks zs : List Int) (E : Nat) (k2 : Sl) (ph : Int) :
    ({ fin ended { { T with number := ph, state := 9 } with number := (phn : Nat) } ks zs E k2 with broken := bad } : Str) = { { fin ended { tN s i k2 with number := (phn : Nat), state := 9 } ks zs E k2 with closers := s.closers } with broken := bad } := by
  have e1 : tN s i k2 = { T with kept := k2 } := by rw [hT, tN_put]
  have e2 : fin ended { tN s i k2 with number := ((phn : Nat) : Int), state := 9 } ks zs E k2 = fin ended { T with number := ((phn : Nat) : Int), state := 9 } ks zs E k2 := by
    rw [e1]; exact fin_put ended { T with number := ((phn : Nat) : Int), state := 9 } ks zs E k2 k2
  rw [e2, ← hTc]
  show ({ fin ended { T with number := ((phn : Nat) : Int), state := 9 } ks zs E k2 with broken := bad } : Str) = _
  have e3 := fin_closers ended { T with number := ((phn : Nat) : Int), state := 9 } ks zs E k2
  have e4 : ({ T with number := ((phn : Nat) : Int), state := 9 } : Str).closers = T.closers := rfl
  rw [e4] at e3
  generalize fin ended { T with number := ((phn : Nat) : Int), state := 9 } ks zs E k2 = F at e3 ⊢
  rw [← e3]
theorem num_C {s T : Str} {i : Int} {k : Sl} (hT : T = tN s i k) (ended : Bool) (phn : Nat) (ks zs : List Int) (E : Nat) (ph : Int) :
    finC ended { { T with number := ph, state := 9 } with number := (phn : Nat) } ks zs E = finC ended { tN s i nilS with number := (phn : Nat), state := 9 } ks zs E := by
  have e1 : tN s i nilS = { T with kept := nilS } := by rw [hT, tN_put]
  rw [e1]
  exact (finC_put ended { T with number := ((phn : Nat) : Int), state := 9 } ks zs E nilS).symm
end Go.Proofs.Qxb6602575a
