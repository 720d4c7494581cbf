import Init
namespace Go.Proofs.Qxb6603658a.Pl

section
variable {α : Type} [DecidableEq α]

/-- How many different ones. -/
def dsz : List α → Nat
  | [] => 0
  | x :: r => (if x ∈ r then 0 else 1) + dsz r

theorem dsz_snoc (x : α) : ∀ l : List α, dsz (l ++ [x]) = dsz l + (if x ∈ l then 0 else 1)
  | [] => by simp [dsz]
  | d :: r => by
    have ih := dsz_snoc x r
    simp only [List.cons_append, dsz, ih, List.mem_append, List.mem_cons]
    by_cases h1 : x ∈ r
    · by_cases h2 : d ∈ r
      · simp [h1, h2]
      · have h3 : d ≠ x := by rintro rfl; exact h2 h1
        simp [h1, h2, h3]
    · by_cases h3 : x = d
      · subst h3; simp [h1]; omega
      · have h4 : d ≠ x := fun h => h3 h.symm
        by_cases h2 : d ∈ r <;> simp [h1, h2, h3, h4] <;> omega

/-- How many different ones of l, each at its last place, are in ms. -/
def ovl (ms : List α) : List α → Nat
  | [] => 0
  | d :: r => (if d ∈ ms ∧ d ∉ r then 1 else 0) + ovl ms r

theorem dsz_append (ms : List α) : ∀ ds : List α, dsz (ds ++ ms) + ovl ms ds = dsz ds + dsz ms
  | [] => by simp [dsz, ovl]
  | d :: r => by
    have ih := dsz_append ms r
    simp only [List.cons_append, dsz, ovl, List.mem_append]
    by_cases h1 : d ∈ r <;> by_cases h2 : d ∈ ms <;> simp [h1, h2] <;> omega

theorem ovl_drop (ms ds : List α) (k : Nat) (h : k < ds.length) : ovl ms (ds.drop k) = (if ds[k] ∈ ms ∧ ds[k] ∉ ds.drop (k + 1) then 1 else 0) + ovl ms (ds.drop (k + 1)) := by
  rw [List.drop_eq_getElem_cons h]; rfl

theorem dsz_take (ds : List α) (k : Nat) (h : k < ds.length) : dsz (ds.take (k + 1)) = dsz (ds.take k) + (if ds[k] ∈ ds.take k then 0 else 1) := by
  rw [List.take_add_one, List.getElem?_eq_getElem h]
  exact dsz_snoc _ _

theorem dsz_take2 (ds ms : List α) (k : Nat) (h : k < ms.length) : dsz (ds ++ ms.take (k + 1)) = dsz (ds ++ ms.take k) + (if ms[k] ∈ ds ++ ms.take k then 0 else 1) := by
  rw [List.take_add_one, List.getElem?_eq_getElem h, ← List.append_assoc]
  exact dsz_snoc _ _

theorem dsz_le : ∀ l : List α, dsz l ≤ l.length
  | [] => Nat.le_refl _
  | d :: r => by have := dsz_le r; simp only [dsz, List.length_cons]; split <;> omega

/-- The last place of x. -/
def last (l : List α) (x : α) : Option Nat := match l with
  | [] => none
  | d :: r => match last r x with
    | some k => some (k + 1)
    | none => if d = x then some 0 else none

theorem last_none {x : α} : ∀ {l : List α}, last l x = none ↔ x ∉ l
  | [] => by simp [last]
  | d :: r => by
    have ih := last_none (x := x) (l := r)
    unfold last
    cases h : last r x with
    | some k =>
      have : x ∈ r := by
        cases Decidable.em (x ∈ r) with
        | inl h' => exact h'
        | inr h' => rw [ih.2 h'] at h; cases h
      simp [this]
    | none =>
      have h1 := ih.1 h
      by_cases hd : d = x
      · simp [hd]
      · have : ¬ x = d := fun h => hd h.symm
        simp [hd, h1, this]

theorem last_some {x : α} : ∀ {l : List α} {k : Nat}, last l x = some k ↔ l[k]? = some x ∧ x ∉ l.drop (k + 1)
  | [], k => by simp [last]
  | d :: r, k => by
    unfold last
    cases h : last r x with
    | some j =>
      have ih := (last_some (x := x) (l := r) (k := j)).1 h
      have hx : x ∈ r := List.mem_of_getElem? ih.1
      cases k with
      | zero => simp [hx]
      | succ k =>
        simp only [Option.some.injEq, Nat.add_right_cancel_iff, List.getElem?_cons_succ, List.drop_succ_cons]
        rw [← last_some, h]; simp
    | none =>
      have hx := last_none.1 h
      cases k with
      | zero =>
        by_cases hd : d = x <;> simp [hd, hx]
      | succ k =>
        have h1 : ¬ r[k]? = some x := fun h => hx (List.mem_of_getElem? h)
        by_cases hd : d = x <;> simp [hd, h1]

theorem last_lt {x : α} {l : List α} {k : Nat} (h : last l x = some k) : k < l.length := (List.getElem?_eq_some_iff.1 (last_some.1 h).1).1

theorem last_snoc (l : List α) (d x : α) : last (l ++ [d]) x = if d = x then some l.length else last l x := by
  by_cases hd : d = x
  · rw [if_pos hd, last_some]; subst hd; simp
  · rw [if_neg hd]
    cases h : last l x with
    | none =>
      rw [last_none] at h ⊢
      have : ¬ x = d := fun h => hd h.symm
      simp [h, this]
    | some k =>
      have hk := last_lt h
      rw [last_some] at h ⊢
      have : ¬ x = d := fun h => hd h.symm
      refine ⟨by rw [List.getElem?_append_left hk]; exact h.1, ?_⟩
      rw [List.drop_append_of_le_length (by omega)]
      simp [h.2, this]

theorem last_take (l : List α) (k : Nat) (hk : k < l.length) (x : α) : last (l.take (k + 1)) x = if l[k] = x then some k else last (l.take k) x := by
  rw [List.take_add_one, List.getElem?_eq_getElem hk, Option.toList_some, last_snoc]
  simp [Nat.min_eq_left (Nat.le_of_lt hk)]

theorem last_mem {x : α} {l : List α} (h : x ∈ l) : ∃ k, last l x = some k := by
  cases h' : last l x with
  | none => exact absurd h (last_none.1 h')
  | some k => exact ⟨k, rfl⟩

/-- What holdings keeps at x: in memory?, named where. -/
def hold (ds ms : List α) (x : α) : Option (Bool × Nat) := match last ms x with
  | some j => some (true, j)
  | none => match last ds x with
    | some j => some (false, j)
    | none => none

theorem hold_nil (x : α) : hold ([] : List α) [] x = none := rfl
theorem hold_disk (ds : List α) (k : Nat) (hk : k < ds.length) (x : α) : hold (ds.take (k + 1)) [] x = if ds[k] = x then some (false, k) else hold (ds.take k) [] x := by
  unfold hold
  rw [last_take ds k hk]
  have e : last ([] : List α) x = none := rfl
  rw [e]
  by_cases h : ds[k] = x <;> simp [h]
theorem hold_mem (ds ms : List α) (k : Nat) (hk : k < ms.length) (x : α) : hold ds (ms.take (k + 1)) x = if ms[k] = x then some (true, k) else hold ds (ms.take k) x := by
  unfold hold
  rw [last_take ms k hk]
  by_cases h : ms[k] = x <;> simp [h]

end

/-- The first place of x. -/
theorem first_take {α : Type} {x : α} {l : List α} {k : Nat} (hk : k < l.length) (h : l[k] = x) : (∀ i, i < k → l[i]? ≠ some x) ↔ l[k] ∉ l.take k := by
  subst h
  constructor
  · intro h hm
    obtain ⟨i, hi, he⟩ := List.mem_take_iff_getElem.1 hm
    exact h i (by omega) (by rw [List.getElem?_eq_getElem (by omega), he])
  · intro h i hi he
    refine h (List.mem_take_iff_getElem.2 ⟨i, by omega, ?_⟩)
    rw [List.getElem?_eq_getElem (by omega)] at he
    exact Option.some.inj he
end Go.Proofs.Qxb6603658a.Pl
