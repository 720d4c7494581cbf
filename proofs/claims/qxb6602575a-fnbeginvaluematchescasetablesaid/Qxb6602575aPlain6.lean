/- A number read on from one of its phases. Nothing of Go beyond the phase's text. -/
import Derived.Test.Qxb6602575aW10
import Derived.Test.Qxb6602575aPlain4
namespace Go.Proofs.Qxb6602575a.Pl

theorem run_append_of {ph q : Nat} {a : List Int} (b : List Int) (h : fin ph a = some q) : run ph (a ++ b) = (a.length + (run q b).1, (run q b).2) := by
  induction a generalizing ph with
  | nil => simp [fin] at h; subst h; simp
  | cons c r ih =>
    cases hs : step ph c with
    | none => rw [fin_none _ hs] at h; cases h
    | some p =>
      rw [fin_some _ hs] at h
      rw [List.cons_append, run_some _ hs, ih h]
      simp; omega
theorem run_append_stop {ph : Nat} {a : List Int} (b : List Int) (h : (run ph a).1 < a.length) : run ph (a ++ b) = run ph a := by
  induction a generalizing ph with
  | nil => simp at h
  | cons c r ih =>
    cases hs : step ph c with
    | none => rw [List.cons_append, run_none _ hs, run_none _ hs]
    | some p =>
      rw [run_some _ hs] at h
      rw [List.cons_append, run_some _ hs, run_some _ hs, ih (by simpa using h)]

theorem phText_fin (ph : Nat) (h : ph ≤ 7) : fin 8 (phText ph) = some ph := by
  have : ph = 0 ∨ ph = 1 ∨ ph = 2 ∨ ph = 3 ∨ ph = 4 ∨ ph = 5 ∨ ph = 6 ∨ ph = 7 := by omega
  rcases this with rfl | rfl | rfl | rfl | rfl | rfl | rfl | rfl <;> decide
theorem phText_len (ph : Nat) : (phText ph).length ≤ 3 := by
  unfold phText; split <;> simp

theorem run_pre (ph : Nat) (h : ph ≤ 7) (L : List Int) : run 8 (phText ph ++ L) = ((phText ph).length + (run ph L).1, (run ph L).2) := run_append_of L (phText_fin ph h)

theorem num_pre (ph : Nat) (h : ph ≤ 7) (L : List Int) : numEnd (phText ph ++ L) 0 = if acc (run ph L).2 then (((phText ph).length + (run ph L).1 : Nat) : Int) else -1 := by
  rw [numEnd_run, List.drop_zero, addN_zero]; unfold res; rw [run_pre ph h L]

theorem run_range (ph : Nat) (h : ph ≤ 8) (l : List Int) : (run ph l).2 ≤ 8 := by
  induction l generalizing ph with
  | nil => rw [run_nil]; exact h
  | cons c r ih =>
    cases hs : step ph c with
    | none => rw [run_none _ hs]; exact h
    | some p => rw [run_some _ hs]; exact ih p (by have := step_range _ _ _ hs; omega)

/-- One digit more does not save it where it broke within the text .. -/
theorem more_bad (ph : Nat) (L : List Int) (ha : acc (run ph L).2 = false) (hn : (run ph L).1 < L.length) : res ph (L ++ [48]) = -1 := by
  unfold res; rw [run_append_stop _ hn, ha]; rfl
/-- .. and saves it where it was only short of one. -/
theorem more_ok (ph : Nat) (h : ph ≤ 8) (L : List Int) (ha : acc (run ph L).2 = false) (hn : (run ph L).1 = L.length) : 0 ≤ res ph (L ++ [48]) := by
  have hq := run_range ph h L
  unfold res
  rw [run_append_of [48] (run_fin ph L hn)]
  rcases live _ hq with h1 | h1
  · rw [h1] at ha; cases ha
  · cases hf : fin (run ph L).2 [48] with
    | none => rw [hf] at h1; cases h1
    | some p =>
      rw [hf] at h1
      rw [fin_run _ _ _ hf]
      have h2 : acc p = true := h1
      simp only [h2, if_true]; omega
theorem num_more (l : List Int) : numEnd l 0 = res 8 l := by rw [numEnd_run, List.drop_zero, addN_zero]
theorem num_more_bad (ph : Nat) (h : ph ≤ 7) (L : List Int) (ha : acc (run ph L).2 = false) (hn : (run ph L).1 < L.length) : numEnd (phText ph ++ L ++ [48]) 0 = -1 := by
  rw [num_more]
  refine more_bad 8 _ (by rw [run_pre ph h L]; exact ha) ?_
  rw [run_pre ph h L, List.length_append]; simp only; omega
theorem num_more_ok (ph : Nat) (h : ph ≤ 7) (L : List Int) (ha : acc (run ph L).2 = false) (hn : (run ph L).1 = L.length) : 0 ≤ numEnd (phText ph ++ L ++ [48]) 0 := by
  rw [num_more]
  refine more_ok 8 (by omega) _ (by rw [run_pre ph h L]; exact ha) ?_
  rw [run_pre ph h L, List.length_append]; simp only; omega
end Go.Proofs.Qxb6602575a.Pl
