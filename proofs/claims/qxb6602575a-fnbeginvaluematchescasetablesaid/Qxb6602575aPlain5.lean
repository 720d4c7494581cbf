/- Where the machine stands on its way. Nothing of Go. -/
import Derived.Test.Qxb6602575aDfa
namespace Go.Proofs.Qxb6602575a.Pl

/-- Begun in ph at place i, the machine has come to place j in state q. -/
def At (ph : Nat) (l : List Int) (i j q : Nat) : Prop := i + (run ph (l.drop i)).1 = j + (run q (l.drop j)).1 ∧ (run ph (l.drop i)).2 = (run q (l.drop j)).2

theorem At.refl (ph : Nat) (l : List Int) (i : Nat) : At ph l i i ph := ⟨rfl, rfl⟩
theorem At.step {ph : Nat} {l : List Int} {i j q q' : Nat} (h : At ph l i j q) (hj : j < l.length) (hs : Pl.step q (bt l j) = some q') : At ph l i (j + 1) q' := by
  obtain ⟨h1, h2⟩ := h
  have e := run_some (l.drop (j + 1)) hs
  rw [← drop_cons l j hj] at e
  rw [e] at h1 h2
  refine ⟨?_, h2⟩
  rw [h1]; simp only; omega
theorem At.done {ph : Nat} {l : List Int} {i j q : Nat} (h : At ph l i j q) (hj : j = l.length) : i + (run ph (l.drop i)).1 = l.length ∧ (run ph (l.drop i)).2 = q := by
  obtain ⟨h1, h2⟩ := h
  have e : run q (l.drop j) = (0, q) := by rw [List.drop_of_length_le (by omega), run_nil]
  rw [e] at h1 h2
  exact ⟨by rw [h1]; simp only; omega, h2⟩
theorem At.stop {ph : Nat} {l : List Int} {i j q : Nat} (h : At ph l i j q) (hj : j < l.length) (hs : Pl.step q (bt l j) = none) : i + (run ph (l.drop i)).1 = j ∧ (run ph (l.drop i)).2 = q := by
  obtain ⟨h1, h2⟩ := h
  have e := run_none (l.drop (j + 1)) hs
  rw [← drop_cons l j hj] at e
  rw [e] at h1 h2
  exact ⟨by rw [h1]; simp only; omega, h2⟩

/-- The state that a broken number is left in. -/
def nx (q : Nat) : Nat := match q with
  | 0 => 2
  | 3 => 4
  | _ => 7
end Go.Proofs.Qxb6602575a.Pl
