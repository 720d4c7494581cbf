/- jsb1IsNumber in plain words: over a text X of which the first m bytes count. Nothing of Go. -/
import Derived.Test.Qxb6602575aDfa
namespace Go.Proofs.Qxb6602575a.Pl

/-- jsb1ByteAt. -/
def ba (l : List Int) (n k : Nat) : Int := if k < n then bt l k else 48
theorem ba_pad (l : List Int) (n k : Nat) (hn : n ≤ l.length) (hk : k ≤ n) : ba l n k = bt (l.take n ++ [48]) k := by
  unfold ba bt
  have hl : (l.take n).length = n := by simp; omega
  by_cases h : k < n
  · rw [if_pos h, List.getElem?_append_left (by omega), List.getElem?_take, if_pos h]
  · rw [if_neg h, List.getElem?_append_right (by omega), hl]
    rw [show k - n = 0 from by omega]; rfl

/-- jsb1AllDigits. -/
def allD (x : List Int) (lo hi : Nat) : Bool := decide (lo < hi) && ((x.take hi).drop lo).all dig

/-- Are all of the bytes from lo on, ahead of hi, digits? -/
theorem allD_true (x : List Int) (lo hi : Nat) (h : lo < hi) (hx : hi ≤ x.length) (ha : ∀ j, lo ≤ j → j < hi → dig (bt x j) = true) : allD x lo hi = true := by
  unfold allD
  simp only [h, decide_true, Bool.true_and, List.all_eq_true]
  intro c hc
  obtain ⟨k, hk, rfl⟩ := List.mem_iff_getElem.1 hc
  have := ha (lo + k) (by omega) (by simp at hk; omega)
  unfold bt at this
  simp at hk
  simpa [show lo + k < x.length from by omega] using this
theorem allD_false (x : List Int) (lo hi j : Nat) (h1 : lo ≤ j) (h2 : j < hi) (hx : hi ≤ x.length) (hd : dig (bt x j) = false) : allD x lo hi = false := by
  unfold allD
  rw [Bool.and_eq_false_iff]; right
  rw [List.all_eq_false]
  refine ⟨bt x j, ?_, by simp [hd]⟩
  rw [List.mem_iff_getElem]
  refine ⟨j - lo, by simp; omega, ?_⟩
  unfold bt
  simp [show lo + (j - lo) = j from by omega, show j < x.length from by omega]
theorem allD_empty (x : List Int) (lo hi : Nat) (h : hi ≤ lo) : allD x lo hi = false := by
  unfold allD; simp; omega

/-- The first place ahead of m whose byte p says yes to; else m. -/
def first (p : Int → Bool) (x : List Int) (m : Nat) : Nat := ((x.take m).takeWhile (fun c => !p c)).length

theorem first_le (p : Int → Bool) (x : List Int) (m : Nat) : first p x m ≤ m := by
  unfold first
  have h1 := (List.takeWhile_sublist (fun c => !p c) (l := x.take m)).length_le
  simp at h1; omega

theorem tw_at (p : Int → Bool) (l : List Int) (k : Nat) (ha : ∀ j, j < k → p (bt l j) = true) (hk : k ≤ l.length) (hs : k < l.length → p (bt l k) = false) : (l.takeWhile p).length = k := by
  induction l generalizing k with
  | nil => simp at hk ⊢; omega
  | cons c r ih =>
    cases k with
    | zero => have := hs (by simp); rw [bt_cons_zero] at this; simp [this]
    | succ k =>
      have h0 := ha 0 (by omega)
      rw [bt_cons_zero] at h0
      rw [List.takeWhile_cons, if_pos h0, List.length_cons]
      rw [ih k (fun j hj => by have := ha (j + 1) (by omega); rwa [bt_cons_succ] at this) (by simpa using hk) (fun h => by have := hs (by simpa using h); rwa [bt_cons_succ] at this)]

theorem first_hit (p : Int → Bool) (x : List Int) (m k : Nat) (hm : m ≤ x.length) (hk : k < m) (ha : ∀ j, j < k → p (bt x j) = false) (hh : p (bt x k) = true) : first p x m = k := by
  unfold first
  refine tw_at _ _ k (fun j hj => ?_) (by simp; omega) (fun _ => ?_)
  · rw [bt_take _ _ _ (by omega), ha j hj]; rfl
  · rw [bt_take _ _ _ (by omega), hh]; rfl
theorem first_none (p : Int → Bool) (x : List Int) (m : Nat) (hm : m ≤ x.length) (ha : ∀ j, j < m → p (bt x j) = false) : first p x m = m := by
  unfold first
  refine tw_at _ _ m (fun j hj => ?_) (by simp; omega) (fun h => ?_)
  · rw [bt_take _ _ _ (by omega), ha j hj]; rfl
  · simp at h; omega

def pt (c : Int) : Bool := c == 46
def fE (x : List Int) (m : Nat) : Nat := first ee x m
def fD (x : List Int) (e : Nat) : Nat := first pt x e
def minus (x : List Int) (d : Nat) : Bool := decide (0 < d) && (bt x 0 == 45)
def loI (x : List Int) (d : Nat) : Nat := if minus x d then 1 else 0
def lead (x : List Int) (lo d : Nat) : Bool := decide (lo + 1 < d) && (bt x lo == 48)
def fracBad (x : List Int) (d e : Nat) : Bool := decide (d < e) && !allD x (d + 1) e
def loE (x : List Int) (e m : Nat) : Nat := if decide (e + 1 < m) && sg (bt x (e + 1)) then e + 2 else e + 1
def expBad (x : List Int) (e m : Nat) : Bool := decide (e < m) && !allD x (loE x e m) m

/-- jsb1IsNumber over a text x of which the first m bytes count. -/
def isNumX (x : List Int) (m : Nat) : Bool :=
  allD x (loI x (fD x (fE x m))) (fD x (fE x m)) && !lead x (loI x (fD x (fE x m))) (fD x (fE x m)) && !fracBad x (fD x (fE x m)) (fE x m) && !expBad x (fE x m) m

def padTo (n : Nat) (pad : Bool) : Nat := if pad then n + 1 else n
/-- jsb1IsNumber(t, n, pad). -/
def isNum (l : List Int) (n : Nat) (pad : Bool) : Bool := isNumX (l.take n ++ [48]) (padTo n pad)
end Go.Proofs.Qxb6602575a.Pl
