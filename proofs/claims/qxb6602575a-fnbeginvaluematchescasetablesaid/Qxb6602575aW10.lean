import Derived.Test.Qxb6602575aW8
import Derived.Test.Qxb6602575aDfa
import Derived.BigQuiet
import Derived.Deep.QuietTactic
namespace Go.Proofs.Qxb6602575a
open Go.RowKit

/-- The text of a number that stands in a phase. -/
def phText (ph : Nat) : List Int := match ph with
  | 0 => [45]
  | 1 => [48]
  | 2 => [49]
  | 3 => [49, 46]
  | 4 => [49, 46, 48]
  | 5 => [49, 101]
  | 6 => [49, 101, 43]
  | _ => [49, 101, 48]

theorem phaseText_any (ph : Nat) (w : World) (h : ph ≤ 7) :
    Calls Try.prog 20 #[.int .u8 ph] w fun e w' => ∃ ao, e = .returned (.slice ao (phText ph).length (phText ph).length) ∧ w'.ownsRow w.heap.size 5 1 (.slice ao (phText ph).length (phText ph).length) (phText ph).length (bys (phText ph)) ∧ Below w.heap.size w w' := by
  have hp : ph = 0 ∨ ph = 1 ∨ ph = 2 ∨ ph = 3 ∨ ph = 4 ∨ ph = 5 ∨ ph = 6 ∨ ph = 7 := by omega
  rcases hp with rfl | rfl | rfl | rfl | rfl | rfl | rfl | rfl
  · go_enter Try.func20, Try.ntmps20
    go_wp2
    go_ret
    exact ⟨_, rfl, World.ownsRow_lit w _ 1 (Nat.le_refl _) (by decide) rfl, (Below.refl _ _).alloc (Nat.le_refl _) _⟩
  · go_enter Try.func20, Try.ntmps20
    go_wp2
    go_ret
    exact ⟨_, rfl, World.ownsRow_lit w _ 1 (Nat.le_refl _) (by decide) rfl, (Below.refl _ _).alloc (Nat.le_refl _) _⟩
  · go_enter Try.func20, Try.ntmps20
    go_wp2
    go_ret
    exact ⟨_, rfl, World.ownsRow_lit w _ 1 (Nat.le_refl _) (by decide) rfl, (Below.refl _ _).alloc (Nat.le_refl _) _⟩
  · go_enter Try.func20, Try.ntmps20
    go_wp2
    go_ret
    exact ⟨_, rfl, World.ownsRow_lit w _ 2 (Nat.le_refl _) (by decide) rfl, (Below.refl _ _).alloc (Nat.le_refl _) _⟩
  · go_enter Try.func20, Try.ntmps20
    go_wp2
    go_ret
    exact ⟨_, rfl, World.ownsRow_lit w _ 3 (Nat.le_refl _) (by decide) rfl, (Below.refl _ _).alloc (Nat.le_refl _) _⟩
  · go_enter Try.func20, Try.ntmps20
    go_wp2
    go_ret
    exact ⟨_, rfl, World.ownsRow_lit w _ 2 (Nat.le_refl _) (by decide) rfl, (Below.refl _ _).alloc (Nat.le_refl _) _⟩
  · go_enter Try.func20, Try.ntmps20
    go_wp2
    go_ret
    exact ⟨_, rfl, World.ownsRow_lit w _ 3 (Nat.le_refl _) (by decide) rfl, (Below.refl _ _).alloc (Nat.le_refl _) _⟩
  · go_enter Try.func20, Try.ntmps20
    go_wp2
    go_ret
    exact ⟨_, rfl, World.ownsRow_lit w _ 3 (Nat.le_refl _) (by decide) rfl, (Below.refl _ _).alloc (Nat.le_refl _) _⟩

/-- (*LookupStream).digit. -/
theorem digit_yes (g : Nat) (c q : Int) (w : World) (hd : Pl.dig c = true) :
    Calls Try.prog 46 #[.pointer (some ⟨g, 0, none⟩), .int .u8 c, .int .u8 q] w fun e w' => e = .returned (.int .u8 q) ∧ w' = w := by
  obtain ⟨h1, h2⟩ := (Pl.dig_iff c).1 hd
  clear hd
  go_enter Try.func46, Try.ntmps46
  go_wp2
  go_ret
  exact ⟨rfl, rfl⟩
theorem digit_no (g : Nat) (s : Str) (c q : Int) (w : World) (h : Strm w g s) (hd : Pl.dig c = false) :
    Calls Try.prog 46 #[.pointer (some ⟨g, 0, none⟩), .int .u8 c, .int .u8 q] w fun e w' => e = .returned (.int .u8 q) ∧ w' = w.setCell ⟨g, 20, none⟩ (.bool true) := by
  have c20 : w.cell? ⟨g, 20, none⟩ = some (.bool s.broken) := h.cell 20
  have f20 := h.free 20
  have hn : ¬ (48 ≤ c ∧ c ≤ 57) := by intro hh; rw [(Pl.dig_iff c).2 hh] at hd; cases hd
  clear hd h
  go_enter Try.func46, Try.ntmps46
  go_wp2
  all_goals go_ret
  all_goals exact ⟨rfl, rfl⟩

theorem Strm.drewN {w : World} {g : Nat} {s : Str} (h : Strm w g s) (n : Nat) : Strm (w.drewN n) g s := h
theorem Only.drewN {g : Nat} {a w : World} (h : Only g a w) (n : Nat) : Only g a (w.drewN n) := ⟨h.os, h.tape, h.output, h.size, h.block⟩

/-- valueEnded of a stream that keeps nothing and has nothing open. -/
theorem valueEnded_fresh (g : Nat) (s : Str) (pv : Value) (i : Int) (w : World) (h : Strm w g s) (hk : s.keepDepth = -1) (hc : s.closers = nilS) :
    Calls Try.prog 45 #[.pointer (some ⟨g, 0, none⟩), pv, .int .i64 i] w fun e w' => e = .returned (.tuple #[]) ∧ Strm w' g { s with state := 7 } ∧ Only g w w' := by
  have c2 : w.cell? ⟨g, 2, none⟩ = some (.slice none 0 0) := by rw [h.cell 2]; simp [Str.cells, hc, nilS]
  have c15 : w.cell? ⟨g, 15, none⟩ = some (.int .i64 (-1)) := by rw [h.cell 15]; simp [Str.cells, hk]
  have c4 : w.cell? ⟨g, 4, none⟩ = some (.int .u8 s.state) := h.cell 4
  have f4 := h.free 4
  have HS : Hid (Strm w g s) := h
  clear h hk hc
  go_enter Try.func45, Try.ntmps45
  go_wp2
  go_quiet (fail)
  go_wp2
  go_end0
  exact ⟨rfl, ((HS.out.drewN nq).state 6).state 7, (((Only.refl g w).drewN nq).setCell 4 _).setCell 4 _⟩
end Go.Proofs.Qxb6602575a
