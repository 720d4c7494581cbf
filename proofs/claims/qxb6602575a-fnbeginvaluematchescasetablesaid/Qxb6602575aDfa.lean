/- The number as a machine of nine states: 0..7 as the program counts its phases, 8 the start. Nothing of Go. -/
import Derived.Test.Qxb6602575aPlain
namespace Go.Proofs.Qxb6602575a.Pl

def dig (c : Int) : Bool := decide (48 ≤ c ∧ c ≤ 57)
def ee (c : Int) : Bool := decide (c = 101 ∨ c = 69)
def sg (c : Int) : Bool := decide (c = 43 ∨ c = 45)

def step (ph : Nat) (c : Int) : Option Nat :=
  match ph with
  | 0 => if c = 48 then some 1 else if dig c then some 2 else none
  | 1 => if c = 46 then some 3 else if ee c then some 5 else none
  | 2 => if dig c then some 2 else if c = 46 then some 3 else if ee c then some 5 else none
  | 3 => if dig c then some 4 else none
  | 4 => if dig c then some 4 else if ee c then some 5 else none
  | 5 => if sg c then some 6 else if dig c then some 7 else none
  | 6 => if dig c then some 7 else none
  | 7 => if dig c then some 7 else none
  | 8 => if c = 45 then some 0 else if c = 48 then some 1 else if dig c then some 2 else none
  | _ => none

/-- Is what was read a whole number? -/
def acc (ph : Nat) : Bool := ph == 1 || ph == 2 || ph == 4 || ph == 7

/-- How many bytes the machine takes, and where it stands then. -/
def run : Nat → List Int → Nat × Nat
  | ph, [] => (0, ph)
  | ph, c :: r => match step ph c with
    | some q => ((run q r).1 + 1, (run q r).2)
    | none => (0, ph)

def res (ph : Nat) (l : List Int) : Int := if acc (run ph l).2 then ((run ph l).1 : Int) else -1
def addN (k : Nat) (r : Int) : Int := if r = -1 then -1 else (k : Int) + r

theorem run_nil (ph : Nat) : run ph [] = (0, ph) := by simp [run]
theorem run_some {ph q : Nat} {c : Int} (r : List Int) (h : step ph c = some q) : run ph (c :: r) = ((run q r).1 + 1, (run q r).2) := by
  simp [run, h]
theorem run_none {ph : Nat} {c : Int} (r : List Int) (h : step ph c = none) : run ph (c :: r) = (0, ph) := by
  simp [run, h]

theorem res_bd (ph : Nat) (l : List Int) : res ph l = -1 ∨ 0 ≤ res ph l := by unfold res; split <;> omega
theorem addN_zero (r : Int) : addN 0 r = r := by unfold addN; split <;> omega
theorem addN_add (a b : Nat) (r : Int) (h : r = -1 ∨ 0 ≤ r) : addN a (addN b r) = addN (a + b) r := by
  unfold addN; split <;> split <;> omega

theorem res_some {ph q : Nat} {c : Int} (r : List Int) (h : step ph c = some q) : res ph (c :: r) = addN 1 (res q r) := by
  unfold res addN; rw [run_some r h]; dsimp only; split
  · split <;> omega
  · simp
theorem res_none {ph : Nat} {c : Int} (r : List Int) (h : step ph c = none) : res ph (c :: r) = if acc ph then 0 else -1 := by
  unfold res; rw [run_none r h]; rfl
theorem res_nil (ph : Nat) : res ph [] = if acc ph then 0 else -1 := by unfold res; rw [run_nil]; rfl

theorem run_le (ph : Nat) (l : List Int) : (run ph l).1 ≤ l.length := by
  induction l generalizing ph with
  | nil => simp [run_nil]
  | cons c r ih =>
    cases h : step ph c with
    | none => rw [run_none r h]; simp
    | some q => rw [run_some r h]; have := ih q; simp; omega

/-- Cut behind what it takes, or anywhere ahead of that: it takes all. -/
theorem run_take (ph : Nat) (l : List Int) (m : Nat) (h : m ≤ (run ph l).1) : (run ph (l.take m)).1 = m := by
  induction l generalizing ph m with
  | nil => simp [run_nil] at h; subst h; simp [run_nil]
  | cons c r ih =>
    cases m with
    | zero => simp [run_nil]
    | succ m =>
      cases hs : step ph c with
      | none => rw [run_none r hs] at h; simp at h
      | some q =>
        rw [run_some r hs] at h
        rw [List.take_succ_cons, run_some _ hs]
        have := ih q m (by simpa using h)
        simp; exact this

theorem run_take_full (ph : Nat) (l : List Int) : run ph (l.take (run ph l).1) = run ph l := by
  induction l generalizing ph with
  | nil => simp [run_nil]
  | cons c r ih =>
    cases hs : step ph c with
    | none => rw [run_none r hs]; simp [run_nil]
    | some q => rw [run_some r hs, List.take_succ_cons, run_some _ hs, ih q]

/-! ### runs of digits -/
theorem dig_iff (c : Int) : dig c = true ↔ 48 ≤ c ∧ c ≤ 57 := by simp [dig]
theorem digRun_cons_dig {c : Int} (r : List Int) (h : dig c = true) : digRun (c :: r) = digRun r + 1 := by
  simp only [digRun]; rw [if_pos ((dig_iff c).1 h)]
theorem digRun_cons_not {c : Int} (r : List Int) (h : dig c = false) : digRun (c :: r) = 0 := by
  simp only [digRun]; rw [if_neg]; intro hh; rw [(dig_iff c).2 hh] at h; cases h

/-- No digit at the head. -/
def noDig (l : List Int) : Prop := ∀ c r, l = c :: r → dig c = false
theorem noDig_drop (l : List Int) : noDig (l.drop (digRun l)) := by
  induction l with
  | nil => intro c r h; simp at h
  | cons a r ih =>
    cases hd : dig a with
    | false => rw [digRun_cons_not r hd]; intro c r' h; simp at h; rw [← h.1]; exact hd
    | true => rw [digRun_cons_dig r hd]; simpa using ih

theorem res_digs (q : Nat) (hs : ∀ c, dig c = true → step q c = some q) (l : List Int) : res q l = addN (digRun l) (res q (l.drop (digRun l))) := by
  induction l with
  | nil => simp [digRun, addN_zero]
  | cons c r ih =>
    cases hd : dig c with
    | false => rw [digRun_cons_not r hd]; simp [addN_zero]
    | true =>
      rw [digRun_cons_dig r hd, res_some r (hs c hd), ih, addN_add _ _ _ (res_bd _ _), List.drop_succ_cons, Nat.add_comm]

/-- A state that wants a digit: what it makes of a list. -/
theorem res_want (ph q : Nat) (l : List Int) (hs : ∀ c r, l = c :: r → dig c = true → step ph c = some q) (hn : ∀ c r, l = c :: r → dig c = false → step ph c = none)
    (hq : ∀ c, dig c = true → step q c = some q) (ha : acc ph = false) : res ph l = if digRun l = 0 then -1 else addN (digRun l) (res q (l.drop (digRun l))) := by
  cases l with
  | nil => rw [res_nil, ha]; simp [digRun]
  | cons c r =>
    cases hd : dig c with
    | false => rw [digRun_cons_not r hd, res_none r (hn c r rfl hd), ha]; rfl
    | true =>
      rw [digRun_cons_dig r hd, res_some r (hs c r rfl hd), res_digs q hq r, addN_add _ _ _ (res_bd _ _), List.drop_succ_cons, if_neg (by omega), Nat.add_comm]

theorem step2_dig (c : Int) (h : dig c = true) : step 2 c = some 2 := by simp [step, h]
theorem step4_dig (c : Int) (h : dig c = true) : step 4 c = some 4 := by simp [step, h]
theorem step7_dig (c : Int) (h : dig c = true) : step 7 c = some 7 := by simp [step, h]

theorem res7_noDig (l : List Int) (h : noDig l) : res 7 l = 0 := by
  cases l with
  | nil => rw [res_nil]; rfl
  | cons c r => rw [res_none r (by simp [step, h c r rfl])]; rfl

theorem digEnd_drop (l : List Int) (i : Nat) : digEnd l i = if digRun (l.drop i) = 0 then -1 else addN i (digRun (l.drop i) : Int) := by
  unfold digEnd addN; split
  · rfl
  · rw [if_neg (by omega)]; omega

theorem drop_cons (l : List Int) (i : Nat) (h : i < l.length) : l.drop i = bt l i :: l.drop (i + 1) := by
  rw [List.drop_eq_getElem_cons h]; unfold bt; simp [h]

theorem drop_drop' (l : List Int) (i d : Nat) : (l.drop i).drop d = l.drop (i + d) := by
  rw [List.drop_drop]

/-- The exponent's digits. -/
theorem st_exp (l : List Int) (x : Nat) : digEnd l (st5 l x) = addN x (res 5 (l.drop x)) := by
  unfold st5
  cases hS : isS l x with
  | true =>
    obtain ⟨h1, h2⟩ := isS_true hS
    have hsg : step 5 (bt l x) = some 6 := by simp [step, sg, h2]
    rw [drop_cons l x h1, res_some _ hsg, res_want 6 7 _ (fun c r _ h => by simp [step, h]) (fun c r _ h => by simp [step, h]) step7_dig rfl, digEnd_drop]
    simp only [if_true]
    split
    · simp [addN]
    · rw [res7_noDig _ (noDig_drop _), addN_add _ _ _ (by right; simp [addN])]
      unfold addN; simp <;> omega
  | false =>
    have hn : ∀ c r, l.drop x = c :: r → sg c = false := by
      intro c r h
      have hl : x < l.length := by
        have := congrArg List.length h; simp at this; omega
      rw [isS_in _ _ hl] at hS
      rw [drop_cons l x hl] at h
      simp at h hS
      rw [← h.1]; simp [sg, hS]
    rw [res_want 5 7 (l.drop x) (fun c r e h => by simp [step, h, hn c r e]) (fun c r e h => by simp [step, h, hn c r e]) step7_dig rfl, digEnd_drop]
    simp only [Bool.false_eq_true, if_false]
    split
    · simp [addN]
    · rw [res7_noDig _ (noDig_drop _)]
      unfold addN; simp <;> omega

theorem st_e (l : List Int) (x ph : Nat) (hph : ph = 1 ∨ ph = 2 ∨ ph = 4) (hx : x ≤ l.length)
    (hd : ph ≠ 1 → noDig (l.drop x)) (hp : ph ≠ 4 → isB l x 46 = false) : st4 l (x : Int) = addN x (res ph (l.drop x)) := by
  unfold st4
  cases hE : isE l (x : Int) with
  | true =>
    obtain ⟨_, h1, h2⟩ := isE_true hE
    have h1' : x < l.length := by omega
    simp only [Int.toNat_natCast, if_true] at h2 ⊢
    have hs : step ph (bt l x) = some 5 := by
      have he : ee (bt l x) = true := by simp [ee, h2]
      have hnd : dig (bt l x) = false := by simp [dig]; omega
      have hn46 : bt l x ≠ 46 := by omega
      rcases hph with rfl | rfl | rfl <;> simp [step, he, hnd, hn46]
    rw [drop_cons l x h1', res_some _ hs, st_exp, addN_add _ _ _ (res_bd _ _)]
  | false =>
    simp only [Bool.false_eq_true, if_false]
    have ha : acc ph = true := by rcases hph with rfl | rfl | rfl <;> rfl
    by_cases hl : x < l.length
    · rw [isE_in _ _ (by omega) (by omega)] at hE
      have hs : step ph (bt l x) = none := by
        simp at hE
        have he : ee (bt l x) = false := by simp [ee, hE]
        rcases hph with rfl | rfl | rfl
        · have := hp (by omega); rw [isB_lt _ hl] at this; simp at this; simp [step, he, this]
        · have := hp (by omega); rw [isB_lt _ hl] at this; simp at this
          have hnd := hd (by omega) _ _ (drop_cons l x hl)
          simp [step, he, this, hnd]
        · have hnd := hd (by omega) _ _ (drop_cons l x hl)
          simp [step, he, hnd]
      rw [drop_cons l x hl, res_none _ hs, ha]; simp [addN]
    · rw [List.drop_of_length_le (by omega), res_nil, ha]; simp [addN]

theorem st_pt (l : List Int) (x ph : Nat) (hph : ph = 1 ∨ ph = 2) (hx : x ≤ l.length) (hd : ph ≠ 1 → noDig (l.drop x)) :
    st4 l (st3 l (x : Int)) = addN x (res ph (l.drop x)) := by
  unfold st3
  cases hB : isB3 l (x : Int) with
  | true =>
    obtain ⟨_, h1, h2⟩ := isB3_true hB
    have h1' : x < l.length := by omega
    simp only [Int.toNat_natCast, if_true] at h2 ⊢
    have hs : step ph (bt l x) = some 3 := by
      rw [h2]; rcases hph with rfl | rfl <;> simp [step, dig]
    rw [drop_cons l x h1', res_some _ hs, res_want 3 4 _ (fun c r _ h => by simp [step, h]) (fun c r _ h => by simp [step, h]) step4_dig rfl]
    unfold digEnd
    split
    · have : st4 l (-1) = -1 := by unfold st4; rw [isE_neg _ _ (by omega)]; simp
      rw [this]; simp [addN]
    · have := digRun_drop_le l (x + 1)
      rw [st_e l _ 4 (by omega) (by omega) (fun _ => by rw [← drop_drop']; exact noDig_drop _) (fun h => absurd rfl h), addN_add _ _ _ (res_bd _ _), addN_add _ _ _ (res_bd _ _), drop_drop', Nat.add_assoc]
  | false =>
    simp only [Bool.false_eq_true, if_false]
    refine st_e l x ph (by omega) hx hd (fun _ => ?_)
    unfold isB3 at hB; simpa using hB

theorem st_int (l : List Int) (x : Nat) : st4 l (st3 l (st2 l x)) = addN x (res 0 (l.drop x)) := by
  unfold st2
  have hm1 : st4 l (st3 l (-1)) = -1 := by
    have : st3 l (-1) = -1 := by unfold st3; rw [isB3_neg _ _ (by omega)]; simp
    rw [this]; unfold st4; rw [isE_neg _ _ (by omega)]; simp
  cases hB : isB l x 48 with
  | true =>
    obtain ⟨h1, h2⟩ := isB_true hB
    rw [if_pos rfl, st_pt l (x + 1) 1 (.inl rfl) (by omega) (fun h => absurd rfl h), drop_cons l x h1, res_some (q := 1) _ (by simp [step, h2]), addN_add _ _ _ (res_bd _ _)]
  | false =>
    simp only [Bool.false_eq_true, if_false]
    have hn : ∀ c r, l.drop x = c :: r → c ≠ 48 := by
      intro c r h
      have hl : x < l.length := by
        have := congrArg List.length h; simp at this; omega
      rw [isB_lt _ hl] at hB
      rw [drop_cons l x hl] at h
      simp at h hB
      rw [← h.1]; exact hB
    rw [res_want 0 2 (l.drop x) (fun c r e h => by simp [step, h, hn c r e]) (fun c r e h => by simp [step, h, hn c r e]) step2_dig rfl]
    unfold digEnd
    split
    · rw [hm1]; simp [addN]
    · have := digRun_drop_le l x
      rw [st_pt l _ 2 (.inr rfl) (by omega) (fun _ => by rw [← drop_drop']; exact noDig_drop _), addN_add _ _ _ (res_bd _ _), drop_drop']

/-- numberEnd is the machine. -/
theorem numEnd_run (l : List Int) (i : Nat) : numEnd l i = addN i (res 8 (l.drop i)) := by
  unfold numEnd
  rw [st_int]
  unfold st1
  cases hB : isB l i 45 with
  | true =>
    obtain ⟨h1, h2⟩ := isB_true hB
    rw [if_pos rfl, drop_cons l i h1, res_some (q := 0) _ (by simp [step, h2]), addN_add _ _ _ (res_bd _ _)]
  | false =>
    simp only [Bool.false_eq_true, if_false]
    congr 1
    by_cases hl : i < l.length
    · rw [isB_lt _ hl] at hB
      simp at hB
      rw [drop_cons l i hl]
      have he : step 8 (bt l i) = step 0 (bt l i) := by simp [step, hB]
      cases hs : step 0 (bt l i) with
      | none => rw [res_none _ hs, res_none _ (he.trans hs)]; rfl
      | some q => rw [res_some _ hs, res_some _ (he.trans hs)]
    · rw [List.drop_of_length_le (by omega)]; rfl

/-! ### numberEnd looks no further than its number -/
theorem numEnd_pos (l : List Int) (i : Nat) (h : numEnd l i ≠ -1) : ∃ n, 1 ≤ n ∧ numEnd l i = ((i + n : Nat) : Int) ∧ i + n ≤ l.length ∧ (run 8 (l.drop i)).1 = n ∧ acc (run 8 (l.drop i)).2 = true := by
  rw [numEnd_run] at h ⊢
  unfold res at h ⊢
  cases ha : acc (run 8 (l.drop i)).2 with
  | false => rw [ha] at h; simp [addN] at h
  | true =>
    have hle := run_le 8 (l.drop i)
    simp at hle
    refine ⟨(run 8 (l.drop i)).1, ?_, ?_, ?_, rfl, rfl⟩
    · cases hd : l.drop i with
      | nil => rw [hd, run_nil] at ha; simp [acc] at ha
      | cons c r =>
        rw [hd] at ha
        cases hs : step 8 c with
        | none => rw [run_none _ hs] at ha; simp [acc] at ha
        | some q => rw [run_some _ hs]; simp
    · simp [addN]
    · cases hd : l.drop i with
      | nil => rw [hd, run_nil] at ha; simp [acc] at ha
      | cons c r => have := congrArg List.length hd; simp at this; rw [← hd]; omega

theorem looks_none (l : List Int) (i : Nat) (h : numEnd l i = -1) : numEnd (l.drop i) 0 = -1 := by
  rw [numEnd_run] at h ⊢
  rw [List.drop_zero, addN_zero]
  have := res_bd 8 (l.drop i)
  unfold addN at h; split at h <;> omega

theorem looks_drop (l : List Int) (i n : Nat) (h : numEnd l i = ((i + n : Nat) : Int)) : numEnd (l.drop i) 0 = (n : Int) := by
  rw [numEnd_run] at h ⊢
  rw [List.drop_zero, addN_zero]
  have := res_bd 8 (l.drop i)
  unfold addN at h; split at h <;> omega

theorem looks_cut (l : List Int) (i n : Nat) (hn : (run 8 (l.drop i)).1 = n) (ha : acc (run 8 (l.drop i)).2 = true) : numEnd ((l.drop i).take n) 0 = (n : Int) := by
  rw [numEnd_run, List.drop_zero, addN_zero]
  subst hn
  unfold res
  rw [run_take_full, ha]; rfl

theorem looks_take (l : List Int) (i n : Nat) (hn : (run 8 (l.drop i)).1 = n) (ha : acc (run 8 (l.drop i)).2 = true) : numEnd (l.take (i + n)) i = ((i + n : Nat) : Int) := by
  rw [numEnd_run]
  have e : (l.take (i + n)).drop i = (l.drop i).take n := by rw [List.drop_take]; congr 1; omega
  rw [e]
  subst hn
  unfold res
  rw [run_take_full, ha]
  simp [addN]

theorem looks_all (l : List Int) (i : Nat) (h : numEnd l i ≠ -1) : ∃ j : Nat, i < j ∧ j ≤ l.length ∧ numEnd l i = (j : Int) ∧ numEnd (l.drop i) 0 = (j : Int) - (i : Int) ∧
    numEnd ((l.drop i).take (j - i)) 0 = (j : Int) - (i : Int) ∧ numEnd (l.take j) i = (j : Int) := by
  obtain ⟨n, h1, h2, h3, h4, h5⟩ := numEnd_pos l i h
  refine ⟨i + n, by omega, h3, h2, ?_, ?_, looks_take l i n h4 h5⟩
  · rw [looks_drop l i n h2]; omega
  · rw [show i + n - i = n from by omega, looks_cut l i n h4 h5]; omega
end Go.Proofs.Qxb6602575a.Pl
