/- jsb1IsNumber is the machine; the longest beginning of a number. Nothing of Go. -/
import Derived.Test.Qxb6602575aPlain3
namespace Go.Proofs.Qxb6602575a.Pl

theorem tw_mem (p : Int → Bool) (l : List Int) (c : Int) (h : c ∈ l.takeWhile p) : p c = true ∧ c ∈ l := by
  induction l with
  | nil => simp at h
  | cons a r ih =>
    rw [List.takeWhile_cons] at h
    split at h
    · rename_i hp
      rw [List.mem_cons] at h
      rcases h with rfl | h
      · exact ⟨hp, by simp⟩
      · exact ⟨(ih h).1, by simp [(ih h).2]⟩
    · cases h
theorem dw_head (p : Int → Bool) (l : List Int) (c : Int) (r : List Int) (h : l.dropWhile p = c :: r) : p c = false := by
  induction l with
  | nil => simp at h
  | cons a r' ih =>
    rw [List.dropWhile_cons] at h
    split at h
    · exact ih h
    · rename_i hp; simp at h; rw [← h.1]; simpa using hp
theorem tw_take (p : Int → Bool) (l : List Int) : l.takeWhile p = l.take (l.takeWhile p).length := by
  induction l with
  | nil => simp
  | cons a r ih =>
    rw [List.takeWhile_cons]
    split
    · rw [List.length_cons, List.take_succ_cons, ← ih]
    · simp
theorem dw_drop (p : Int → Bool) (l : List Int) : l.dropWhile p = l.drop (l.takeWhile p).length := by
  induction l with
  | nil => simp
  | cons a r ih =>
    rw [List.takeWhile_cons, List.dropWhile_cons]
    split
    · rw [List.length_cons, List.drop_succ_cons, ih]
    · simp

theorem take_take_le (x : List Int) (a b : Nat) (h : a ≤ b) : (x.take b).take a = x.take a := by
  rw [List.take_take, Nat.min_eq_left h]

theorem allD_digs (x : List Int) (lo hi : Nat) (h : hi ≤ x.length) : allD x lo hi = digs ((x.take hi).drop lo) := by
  unfold allD digs
  congr 1
  by_cases hl : lo < hi
  · rw [decide_eq_true hl]
    have : ((x.take hi).drop lo) ≠ [] := by
      intro e; have := congrArg List.length e; simp at this; omega
    cases hh : (x.take hi).drop lo with
    | nil => exact absurd hh this
    | cons a r => rfl
  · rw [decide_eq_false hl]
    have : ((x.take hi).drop lo) = [] := by apply List.drop_of_length_le; simp; omega
    rw [this]; rfl

theorem head_drop (x : List Int) (m e : Nat) (he : e < m) (hm : m ≤ x.length) : (x.take m).drop e = bt x e :: (x.take m).drop (e + 1) := by
  rw [drop_cons _ e (by simp; omega), bt_take _ _ _ he]

theorem int_law (x : List Int) (d : Nat) (hd : d ≤ x.length) : intOk (x.take d) = (allD x (loI x d) d && !lead x (loI x d) d) := by
  have hs : strip (x.take d) = (x.take d).drop (loI x d) := by
    by_cases h0 : 0 < d
    · have hh := head_drop x d 0 h0 hd
      rw [List.drop_zero] at hh
      rw [hh]
      unfold strip loI minus
      by_cases hb : bt x 0 = 45
      · simp [hb, h0]
      · simp [hb]
    · have : d = 0 := by omega
      subst this; rfl
  unfold intOk
  rw [hs, allD_digs _ _ _ hd]
  congr 2
  have hlo : loI x d ≤ d := by
    unfold loI minus; split
    · rename_i h; simp at h; omega
    · omega
  generalize loI x d = lo at hlo
  unfold lead0 lead
  have hlen : ((x.take d).drop lo).length = d - lo := by simp; omega
  rw [hlen]
  by_cases hl : lo + 1 < d
  · rw [decide_eq_true hl, decide_eq_true (show 1 < d - lo from by omega), head_drop x d lo (by omega) hd, bt_cons_zero]
  · rw [decide_eq_false hl, decide_eq_false (show ¬ 1 < d - lo from by omega)]; rfl

theorem frac_law (x : List Int) (d e : Nat) (he : e ≤ x.length) (hd : d ≤ e) : fracOk ((x.take e).drop d) = !fracBad x d e := by
  unfold fracBad
  by_cases h : d < e
  · rw [head_drop x e d h he, decide_eq_true h, allD_digs _ _ _ he]; simp [fracOk]
  · have : (x.take e).drop d = [] := by apply List.drop_of_length_le; simp; omega
    rw [this, decide_eq_false h]; rfl

theorem exp_law (x : List Int) (e m : Nat) (hm : m ≤ x.length) (he : e ≤ m) : expOk ((x.take m).drop e) = !expBad x e m := by
  unfold expBad
  by_cases h : e < m
  · rw [head_drop x m e h hm, decide_eq_true h, allD_digs _ _ _ hm]
    simp only [expOk, Bool.true_and, Bool.not_not]
    congr 1
    unfold loE
    by_cases h1 : e + 1 < m
    · rw [head_drop x m (e + 1) h1 hm, decide_eq_true h1]
      unfold stripS
      cases hs : sg (bt x (e + 1)) with
      | true => simp [hs]
      | false => simp [hs, head_drop x m (e + 1) h1 hm]
    · have : (x.take m).drop (e + 1) = [] := by apply List.drop_of_length_le; simp; omega
      rw [this, decide_eq_false h1]
      simp [stripS, this]
  · have : (x.take m).drop e = [] := by apply List.drop_of_length_le; simp; omega
    rw [this, decide_eq_false h]; rfl

/-- jsb1IsNumber says whether the machine takes the whole text as a number. -/
theorem isNumX_accept (x : List Int) (m : Nat) (hm : m ≤ x.length) : isNumX x m = accept (x.take m) := by
  have he : fE x m ≤ m := first_le ee x m
  have hA : (x.take m).takeWhile (fun c => !ee c) = x.take (fE x m) := by
    rw [tw_take]; show (x.take m).take (fE x m) = _; rw [take_take_le _ _ _ he]
  have hB : (x.take m).dropWhile (fun c => !ee c) = (x.take m).drop (fE x m) := dw_drop _ _
  have hAe : ∀ c, c ∈ x.take (fE x m) → ee c = false := by
    intro c hc; rw [← hA] at hc; have := (tw_mem _ _ _ hc).1; simpa using this
  have hBe : ∀ c r, (x.take m).drop (fE x m) = c :: r → ee c = true := by
    intro c r h; rw [← hB] at h; have := dw_head _ _ _ _ h; simpa using this
  unfold isNumX
  generalize fE x m = e at he hAe hBe ⊢
  have hd : fD x e ≤ e := first_le pt x e
  have hI : (x.take e).takeWhile (fun c => !pt c) = x.take (fD x e) := by
    rw [tw_take]; show (x.take e).take (fD x e) = _; rw [take_take_le _ _ _ hd]
  have hF : (x.take e).dropWhile (fun c => !pt c) = (x.take e).drop (fD x e) := dw_drop _ _
  have hIp : bare (x.take (fD x e)) := by
    intro c hc; rw [← hI] at hc; have := tw_mem _ _ _ hc; exact ⟨by simpa using this.1, hAe c this.2⟩
  have hFp : ∀ c r, (x.take e).drop (fD x e) = c :: r → c = 46 := by
    intro c r h; rw [← hF] at h; have := dw_head _ _ _ _ h; simpa [pt] using this
  generalize fD x e = d at hd hIp hFp ⊢
  have hx : x.take m = x.take d ++ (x.take e).drop d ++ (x.take m).drop e := by
    have h1 : x.take d ++ (x.take e).drop d = x.take e := by
      rw [← take_take_le x d e hd]; exact List.take_append_drop d _
    rw [h1, ← take_take_le x e m he]; exact (List.take_append_drop e _).symm
  rw [hx, accept_parts _ _ _ hIp hFp (fun c hc => hAe c (List.mem_of_mem_drop hc)) hBe, int_law x d (by omega), frac_law x d e (by omega) hd, exp_law x e m hm he]

/-- jsb1IsNumber(t, n, pad). -/
theorem isNum_accept (l : List Int) (n : Nat) (hn : n ≤ l.length) : isNum l n false = accept (l.take n) ∧ isNum l n true = accept (l.take n ++ [48]) := by
  have hl : (l.take n ++ [48]).length = n + 1 := by simp; omega
  have hl' : (l.take n).length = n := by simp; omega
  refine ⟨?_, ?_⟩
  · show isNumX (l.take n ++ [48]) n = _
    rw [isNumX_accept _ _ (by omega)]
    congr 1
    rw [List.take_append_of_le_length (by omega), List.take_of_length_le (by omega)]
  · show isNumX (l.take n ++ [48]) (n + 1) = _
    rw [isNumX_accept _ _ (by omega), List.take_of_length_le (by omega)]

/-- Some number begins so. -/
def viable (l : List Int) (k : Nat) : Bool := isNum l k false || isNum l k true

theorem step_range (ph q : Nat) (c : Int) (h : step ph c = some q) : q < 8 := by
  unfold step at h
  split at h <;> (repeat' split at h) <;> simp at h <;> omega
theorem fin_range (ph q : Nat) (l : List Int) (hp : ph ≤ 8) (h : fin ph l = some q) : q ≤ 8 := by
  induction l generalizing ph with
  | nil => simp [fin] at h; omega
  | cons c r ih =>
    cases hs : step ph c with
    | none => rw [fin_none _ hs] at h; cases h
    | some p => rw [fin_some _ hs] at h; exact ih p (by have := step_range _ _ _ hs; omega) h

theorem live (q : Nat) (hq : q ≤ 8) : acc q = true ∨ okF (fin q [48]) = true := by
  have : q = 0 ∨ q = 1 ∨ q = 2 ∨ q = 3 ∨ q = 4 ∨ q = 5 ∨ q = 6 ∨ q = 7 ∨ q = 8 := by omega
  rcases this with rfl | rfl | rfl | rfl | rfl | rfl | rfl | rfl | rfl <;> decide

theorem viable_fin (l : List Int) (k : Nat) (hk : k ≤ l.length) : viable l k = (fin 8 (l.take k)).isSome := by
  unfold viable
  rw [(isNum_accept l k hk).1, (isNum_accept l k hk).2]
  unfold accept
  rw [fin_append]
  cases h : fin 8 (l.take k) with
  | none => rfl
  | some q =>
    have := live q (fin_range 8 q _ (by omega) h)
    rw [Option.bind_some]
    show (acc q || okF (fin q [48])) = true
    rcases this with h1 | h1 <;> simp [h1]

theorem viable_iff (l : List Int) (k : Nat) (hk : k ≤ l.length) : viable l k = decide (k ≤ (run 8 l).1) := by
  rw [viable_fin l k hk]
  by_cases h : k ≤ (run 8 l).1
  · rw [decide_eq_true h]
    have h1 := run_take 8 l k h
    rw [run_fin 8 (l.take k) (by rw [h1]; simp; omega)]; rfl
  · rw [decide_eq_false h]
    cases hf : fin 8 (l.take k) with
    | none => rfl
    | some q =>
      exfalso
      apply h
      have h1 := fin_run 8 q _ hf
      clear hf h
      -- the machine takes at least as much of more
      have mono : ∀ (ph : Nat) (a b : List Int), (run ph a).1 ≤ (run ph (a ++ b)).1 := by
        intro ph a b
        induction a generalizing ph with
        | nil => simp [run_nil]
        | cons c r ih =>
          cases hs : step ph c with
          | none => rw [run_none _ hs]; simp
          | some p => rw [List.cons_append, run_some _ hs, run_some _ hs]; have := ih p; simp; omega
      have := mono 8 (l.take k) (l.drop k)
      rw [List.take_append_drop, h1] at this
      simp at this; omega

/-- The longest beginning of a number. -/
def longest (l : List Int) : Nat := (run 8 l).1
theorem longest_le (l : List Int) : longest l ≤ l.length := run_le 8 l
theorem longest_num (l : List Int) : isNum l (longest l) false = acc (run 8 l).2 := by
  rw [(isNum_accept l _ (longest_le l)).1]
  unfold accept longest
  rw [run_fin 8 _ (by rw [run_take_full]; have := run_le 8 l; simp; omega), run_take_full]; rfl
/-- numberEnd and the longest beginning. -/
theorem numEnd_longest (l : List Int) (i : Nat) : numEnd l i = if isNum (l.drop i) (longest (l.drop i)) false then ((i + longest (l.drop i) : Nat) : Int) else -1 := by
  rw [numEnd_run, longest_num]
  unfold res longest addN
  split
  · rw [if_neg (by omega)]; omega
  · rfl
end Go.Proofs.Qxb6602575a.Pl
