/- Plain lists and numbers: nothing of Go. -/
namespace Go.Proofs.Qxb6602575a.Pl

/-- The byte at a place. -/
def bt (l : List Int) (k : Nat) : Int := l[k]?.getD 0

/-- How many decimal digits a list of bytes opens with. -/
def digRun : List Int → Nat
  | [] => 0
  | c :: r => if 48 ≤ c ∧ c ≤ 57 then digRun r + 1 else 0

theorem digRun_le (l : List Int) : digRun l ≤ l.length := by
  induction l with
  | nil => simp [digRun]
  | cons c r ih => simp only [digRun]; split <;> simp <;> omega

theorem bt_cons_succ (c : Int) (r : List Int) (k : Nat) : bt (c :: r) (k + 1) = bt r k := by simp [bt]
theorem bt_cons_zero (c : Int) (r : List Int) : bt (c :: r) 0 = c := by simp [bt]
theorem bt_drop (l : List Int) (i k : Nat) : bt (l.drop i) k = bt l (i + k) := by
  unfold bt; rw [List.getElem?_drop]
theorem bt_take (l : List Int) (n k : Nat) (h : k < n) : bt (l.take n) k = bt l k := by
  unfold bt; rw [List.getElem?_take]; simp [h]

theorem digRun_step0 (l : List Int) : ∀ k, k ≤ digRun l → k < l.length → 48 ≤ bt l k → bt l k ≤ 57 → k + 1 ≤ digRun l := by
  induction l with
  | nil => intro k _ h; simp at h
  | cons c r ih =>
    intro k hk hl h1 h2
    simp only [digRun] at hk ⊢
    cases k with
    | zero => rw [bt_cons_zero] at h1 h2; rw [if_pos ⟨h1, h2⟩]; omega
    | succ k =>
      rw [bt_cons_succ] at h1 h2
      split at hk
      · rename_i hc
        rw [if_pos hc]
        have := ih k (by omega) (by simpa using hl) h1 h2
        omega
      · omega

theorem digRun_stop0 (l : List Int) : ∀ k, k ≤ digRun l → ¬ (k < l.length ∧ 48 ≤ bt l k ∧ bt l k ≤ 57) → digRun l = k := by
  induction l with
  | nil => intro k hk _; simp [digRun] at hk ⊢; omega
  | cons c r ih =>
    intro k hk h
    simp only [digRun] at hk ⊢
    cases k with
    | zero => rw [bt_cons_zero] at h; rw [if_neg]; intro hc; exact h ⟨by simp, hc⟩
    | succ k =>
      rw [bt_cons_succ] at h
      split at hk
      · rename_i hc
        rw [if_pos hc]
        have := ih k (by omega) (by intro hh; apply h; simpa using hh)
        omega
      · omega

theorem digRun_step (l : List Int) (i k : Nat) (hk : k ≤ digRun (l.drop i)) (hl : i + k < l.length) (h1 : 48 ≤ bt l (i + k)) (h2 : bt l (i + k) ≤ 57) : k + 1 ≤ digRun (l.drop i) :=
  digRun_step0 _ k hk (by simp; omega) (by rw [bt_drop]; exact h1) (by rw [bt_drop]; exact h2)

theorem digRun_stop (l : List Int) (i k : Nat) (hk : k ≤ digRun (l.drop i)) (h : ¬ (i + k < l.length ∧ 48 ≤ bt l (i + k) ∧ bt l (i + k) ≤ 57)) : digRun (l.drop i) = k :=
  digRun_stop0 _ k hk (by
    intro hh; apply h
    rw [bt_drop] at hh
    simp at hh
    exact ⟨by omega, hh.2⟩)

/-- What digitsEnd computes. -/
def digEnd (l : List Int) (i : Nat) : Int := if digRun (l.drop i) = 0 then -1 else ((i + digRun (l.drop i) : Nat) : Int)

theorem digRun_drop_le (l : List Int) (i : Nat) : digRun (l.drop i) ≤ l.length - i := by
  have := digRun_le (l.drop i); simpa using this

theorem digEnd_out (l : List Int) (i k : Nat) (hk : k ≤ digRun (l.drop i)) (h : ¬ (i + k < l.length ∧ 48 ≤ bt l (i + k) ∧ bt l (i + k) ≤ 57)) :
    digEnd l i = if ((i : Int) + (k : Int) == (i : Int)) = true then -1 else (i : Int) + (k : Int) := by
  have e := digRun_stop l i k hk h
  unfold digEnd
  rw [e]
  by_cases h0 : k = 0
  · subst h0; simp
  · have : ((i : Int) + (k : Int) == (i : Int)) = false := by simp; omega
    rw [this]; simp [h0]

theorem digEnd_past (l : List Int) (i : Nat) (h : l.length ≤ i) : digEnd l i = -1 := by
  unfold digEnd; rw [List.drop_of_length_le h]; rfl

theorem digEnd_bd (l : List Int) (i : Nat) : digEnd l i = -1 ∨ ((i : Int) < digEnd l i ∧ digEnd l i ≤ l.length) := by
  unfold digEnd
  have := digRun_drop_le l i
  split
  · exact .inl rfl
  · right; omega

/-- Is there a byte c at place i? -/
def isB (l : List Int) (i : Nat) (c : Int) : Bool := decide (i < l.length ∧ bt l i = c)
theorem isB_true {l : List Int} {i : Nat} {c : Int} (h : isB l i c = true) : i < l.length ∧ bt l i = c := of_decide_eq_true h
theorem isB_lt {l : List Int} {i : Nat} (c : Int) (h : i < l.length) : isB l i c = (bt l i == c) := by
  unfold isB; rw [Bool.eq_iff_iff]; simp [h]
theorem isB_ge {l : List Int} {i : Nat} (c : Int) (h : l.length ≤ i) : isB l i c = false := by
  unfold isB; simp; omega

/-- numberEnd, stage by stage. -/
def st1 (l : List Int) (i : Nat) : Nat := if isB l i 45 then i + 1 else i
def st2 (l : List Int) (i : Nat) : Int := if isB l i 48 then ((i + 1 : Nat) : Int) else digEnd l i
def isB3 (l : List Int) (i : Int) : Bool := decide (0 ≤ i) && isB l i.toNat 46
def st3 (l : List Int) (i : Int) : Int := if isB3 l i then digEnd l (i.toNat + 1) else i
def isE (l : List Int) (i : Int) : Bool := decide (0 ≤ i) && (isB l i.toNat 101 || isB l i.toNat 69)
def isS (l : List Int) (i : Nat) : Bool := isB l i 43 || isB l i 45
def st5 (l : List Int) (i : Nat) : Nat := if isS l i then i + 1 else i
def st4 (l : List Int) (i : Int) : Int := if isE l i then digEnd l (st5 l (i.toNat + 1)) else i
def numEnd (l : List Int) (i : Nat) : Int := st4 l (st3 l (st2 l (st1 l i)))

theorem st1_bd (l : List Int) (i : Nat) : i ≤ st1 l i ∧ st1 l i ≤ i + 1 ∧ (st1 l i = i ∨ st1 l i ≤ l.length) := by
  unfold st1; split
  · rename_i h; have := isB_true h; omega
  · omega
theorem st2_bd (l : List Int) (i : Nat) : st2 l i = -1 ∨ ((i : Int) < st2 l i ∧ st2 l i ≤ l.length) := by
  unfold st2; split
  · rename_i h; have := isB_true h; omega
  · exact digEnd_bd l i
theorem isB3_true {l : List Int} {i : Int} (h : isB3 l i = true) : 0 ≤ i ∧ i < l.length ∧ bt l i.toNat = 46 := by
  unfold isB3 at h; simp at h; have := isB_true h.2; omega
theorem isE_true {l : List Int} {i : Int} (h : isE l i = true) : 0 ≤ i ∧ i < l.length ∧ (bt l i.toNat = 101 ∨ bt l i.toNat = 69) := by
  unfold isE at h; simp at h
  rcases h with ⟨h0, h1 | h1⟩ <;> (have := isB_true h1; omega)
theorem isS_true {l : List Int} {i : Nat} (h : isS l i = true) : i < l.length ∧ (bt l i = 43 ∨ bt l i = 45) := by
  unfold isS at h; simp at h
  rcases h with h1 | h1 <;> (have := isB_true h1; omega)
theorem st3_bd (l : List Int) (i : Int) (h : i = -1 ∨ (0 ≤ i ∧ i ≤ l.length)) : st3 l i = -1 ∨ (0 ≤ st3 l i ∧ i ≤ st3 l i ∧ st3 l i ≤ l.length) := by
  unfold st3; split
  · rename_i h1; have := isB3_true h1; have := digEnd_bd l (i.toNat + 1); omega
  · omega
theorem st5_bd (l : List Int) (i : Nat) (h : i ≤ l.length) : i ≤ st5 l i ∧ st5 l i ≤ l.length := by
  unfold st5; split
  · rename_i h1; have := isS_true h1; omega
  · omega

theorem isB3_neg (l : List Int) (i : Int) (h : i < 0) : isB3 l i = false := by unfold isB3; simp; omega
theorem isB3_ge (l : List Int) (i : Int) (h : l.length ≤ i) : isB3 l i = false := by
  unfold isB3; rw [isB_ge _ (by omega)]; simp
theorem isB3_in (l : List Int) (i : Int) (h0 : 0 ≤ i) (h : i < l.length) : isB3 l i = (bt l i.toNat == 46) := by
  unfold isB3; rw [isB_lt _ (by omega)]; simp [h0]
theorem isE_neg (l : List Int) (i : Int) (h : i < 0) : isE l i = false := by unfold isE; simp; omega
theorem isE_ge (l : List Int) (i : Int) (h : l.length ≤ i) : isE l i = false := by
  unfold isE; rw [isB_ge _ (by omega), isB_ge _ (by omega)]; simp
theorem isE_in (l : List Int) (i : Int) (h0 : 0 ≤ i) (h : i < l.length) : isE l i = ((bt l i.toNat == 101) || (bt l i.toNat == 69)) := by
  unfold isE; rw [isB_lt _ (by omega), isB_lt _ (by omega)]; simp [h0]
theorem isS_ge (l : List Int) (i : Nat) (h : l.length ≤ i) : isS l i = false := by
  unfold isS; rw [isB_ge _ h, isB_ge _ h]; rfl
theorem isS_in (l : List Int) (i : Nat) (h : i < l.length) : isS l i = ((bt l i == 43) || (bt l i == 45)) := by
  unfold isS; rw [isB_lt _ h, isB_lt _ h]
end Go.Proofs.Qxb6602575a.Pl
