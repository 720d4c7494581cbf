/- The grammar of jsb1IsNumber is the machine. Nothing of Go. -/
import Derived.Test.Qxb6602575aPlain2
namespace Go.Proofs.Qxb6602575a.Pl

/-- Where the machine stands behind ALL of a list. -/
def fin : Nat → List Int → Option Nat
  | ph, [] => some ph
  | ph, c :: r => match step ph c with
    | some q => fin q r
    | none => none

theorem fin_some {ph q : Nat} {c : Int} (r : List Int) (h : step ph c = some q) : fin ph (c :: r) = fin q r := by simp [fin, h]
theorem fin_none {ph : Nat} {c : Int} (r : List Int) (h : step ph c = none) : fin ph (c :: r) = none := by simp [fin, h]
theorem fin_append (ph : Nat) (a b : List Int) : fin ph (a ++ b) = (fin ph a).bind (fun q => fin q b) := by
  induction a generalizing ph with
  | nil => simp [fin]
  | cons c r ih =>
    cases h : step ph c with
    | none => rw [List.cons_append, fin_none _ h, fin_none _ h]; rfl
    | some q => rw [List.cons_append, fin_some _ h, fin_some _ h, ih]

def okF : Option Nat → Bool
  | some q => acc q
  | none => false
/-- Is the whole list a number? -/
def accept (l : List Int) : Bool := okF (fin 8 l)

theorem run_fin (ph : Nat) (l : List Int) (h : (run ph l).1 = l.length) : fin ph l = some (run ph l).2 := by
  induction l generalizing ph with
  | nil => simp [fin, run_nil]
  | cons c r ih =>
    cases hs : step ph c with
    | none => rw [run_none _ hs] at h; simp at h
    | some q => rw [run_some _ hs] at h ⊢; rw [fin_some _ hs]; exact ih q (by simpa using h)
theorem fin_run (ph q : Nat) (l : List Int) (h : fin ph l = some q) : run ph l = (l.length, q) := by
  induction l generalizing ph with
  | nil => simp [fin] at h; simp [run_nil, h]
  | cons c r ih =>
    cases hs : step ph c with
    | none => rw [fin_none _ hs] at h; cases h
    | some p => rw [fin_some _ hs] at h; rw [run_some _ hs, ih p h]; simp

/-! ### digits -/
theorem fin_digs (q : Nat) (hs : ∀ c, dig c = true → step q c = some q) (l : List Int) (h : l.all dig = true) : fin q l = some q := by
  induction l with
  | nil => rfl
  | cons c r ih => simp at h; rw [fin_some _ (hs c h.1)]; exact ih (by simpa using h.2)
theorem fin_not (q : Nat) (hs : ∀ c, dig c = true → step q c = some q) (l : List Int) (hn : ∀ c, c ∈ l → dig c = false → step q c = none) (h : l.all dig = false) : fin q l = none := by
  induction l with
  | nil => simp at h
  | cons c r ih =>
    cases hd : dig c with
    | false => rw [fin_none _ (hn c (by simp) hd)]
    | true => rw [fin_some _ (hs c hd)]; refine ih (fun c' hc' => hn c' (by simp [hc'])) ?_; simpa [hd] using h

theorem step2_other (c : Int) (h1 : pt c = false) (h2 : ee c = false) (h : dig c = false) : step 2 c = none := by
  simp [pt] at h1; simp [step, h, h1, h2]
theorem step1_other (c : Int) (h1 : pt c = false) (h2 : ee c = false) : step 1 c = none := by
  simp [pt] at h1; simp [step, h1, h2]
theorem step4_other (c : Int) (h2 : ee c = false) (h : dig c = false) : step 4 c = none := by simp [step, h, h2]
theorem step7_other (c : Int) (h : dig c = false) : step 7 c = none := by simp [step, h]

/-- One or more digits. -/
def digs (l : List Int) : Bool := !l.isEmpty && l.all dig
/-- .. without a leading zero. -/
def lead0 (l : List Int) : Bool := decide (1 < l.length) && (bt l 0 == 48)

/-- Plain: neither a point nor an e. -/
def bare (l : List Int) : Prop := ∀ c, c ∈ l → pt c = false ∧ ee c = false

/-- What state 0 makes of an integer part. -/
theorem fin0 (l : List Int) (hb : bare l) : (digs l && !lead0 l) = true ∧ (fin 0 l = some 1 ∨ fin 0 l = some 2) ∨ (digs l && !lead0 l) = false ∧ (fin 0 l = none ∨ (fin 0 l = some 0 ∧ l = [])) := by
  cases l with
  | nil => right; exact ⟨rfl, .inr ⟨rfl, rfl⟩⟩
  | cons c r =>
    have hbr : ∀ c', c' ∈ r → dig c' = false → step 2 c' = none := fun c' hc' h => step2_other c' (hb c' (by simp [hc'])).1 (hb c' (by simp [hc'])).2 h
    by_cases h0 : c = 48
    · subst h0
      have hs : step 0 48 = some 1 := by simp [step]
      cases r with
      | nil => left; refine ⟨by simp [digs, lead0, dig], .inl ?_⟩; rw [fin_some _ hs]; rfl
      | cons c' r' =>
        right
        refine ⟨by simp [lead0, bt], .inl ?_⟩
        rw [fin_some _ hs, fin_none _ (step1_other c' (hb c' (by simp)).1 (hb c' (by simp)).2)]
    · have hl : lead0 (c :: r) = false := by simp [lead0, bt, h0]
      cases hd : dig c with
      | false =>
        right
        refine ⟨by simp [digs, hd], .inl (fin_none _ (by simp [step, h0, hd]))⟩
      | true =>
        have hs : step 0 c = some 2 := by simp [step, h0, hd]
        rw [fin_some _ hs, hl]
        cases ha : r.all dig with
        | true => left; exact ⟨by simp only [digs, List.all_cons, hd, ha]; rfl, .inr (fin_digs 2 step2_dig r ha)⟩
        | false => right; exact ⟨by simp only [digs, List.all_cons, hd, ha]; rfl, .inl (fin_not 2 step2_dig r hbr ha)⟩

/-- An integer part: an optional minus ahead. -/
def strip (l : List Int) : List Int := match l with
  | c :: r => if c = 45 then r else c :: r
  | [] => []
def intOk (l : List Int) : Bool := digs (strip l) && !lead0 (strip l)

theorem fin8 (l : List Int) (hb : bare l) : intOk l = true ∧ (fin 8 l = some 1 ∨ fin 8 l = some 2) ∨ intOk l = false ∧ (fin 8 l = none ∨ fin 8 l = some 0 ∨ fin 8 l = some 8) := by
  cases l with
  | nil => right; exact ⟨rfl, .inr (.inr rfl)⟩
  | cons c r =>
    by_cases h : c = 45
    · subst h
      have hs : step 8 45 = some 0 := by simp [step]
      have := fin0 r (fun c hc => hb c (by simp [hc]))
      rw [fin_some _ hs]
      show (digs r && !lead0 r) = true ∧ _ ∨ (digs r && !lead0 r) = false ∧ _
      rcases this with ⟨h1, h2⟩ | ⟨h1, h2 | ⟨h2, _⟩⟩
      · exact .inl ⟨h1, h2⟩
      · exact .inr ⟨h1, .inl h2⟩
      · exact .inr ⟨h1, .inr (.inl h2)⟩
    · have e8 : step 8 c = step 0 c := by simp [step, h]
      have hf : fin 8 (c :: r) = fin 0 (c :: r) := by simp only [fin, e8]
      have hst : strip (c :: r) = c :: r := by simp [strip, h]
      have := fin0 (c :: r) hb
      unfold intOk
      rw [hf, hst]
      rcases this with ⟨h1, h2⟩ | ⟨h1, h2 | ⟨_, h3⟩⟩
      · exact .inl ⟨h1, h2⟩
      · exact .inr ⟨h1, .inl h2⟩
      · cases h3

/-- A fraction: nothing, or its point and digits. -/
def fracOk (l : List Int) : Bool := match l with
  | [] => true
  | _ :: r => digs r
theorem digs_fin (ph q : Nat) (l : List Int) (hne : ∀ c, dig c = true → step ph c = some q) (hn : ∀ c, c ∈ l → dig c = false → step ph c = none) (hs : ∀ c, dig c = true → step q c = some q)
    (hq : ∀ c, c ∈ l → dig c = false → step q c = none) : digs l = true ∧ fin ph l = some q ∨ digs l = false ∧ (fin ph l = none ∨ fin ph l = some ph ∧ l = []) := by
  cases l with
  | nil => right; exact ⟨rfl, .inr ⟨rfl, rfl⟩⟩
  | cons c r =>
    cases hd : dig c with
    | false => right; exact ⟨by simp [digs, hd], .inl (fin_none _ (hn c (by simp) hd))⟩
    | true =>
      rw [fin_some _ (hne c hd)]
      cases ha : r.all dig with
      | true => left; exact ⟨by simp only [digs, List.all_cons, hd, ha]; rfl, fin_digs q hs r ha⟩
      | false => right; exact ⟨by simp only [digs, List.all_cons, hd, ha]; rfl, .inl (fin_not q hs r (fun c' hc' => hq c' (by simp [hc'])) ha)⟩

theorem finF (q : Nat) (hq : q = 1 ∨ q = 2) (l : List Int) (hl : ∀ c r, l = c :: r → c = 46) (hb : ∀ c, c ∈ l → ee c = false) :
    fracOk l = true ∧ (fin q l = some q ∨ fin q l = some 4) ∨ fracOk l = false ∧ (fin q l = none ∨ fin q l = some 3) := by
  cases l with
  | nil => left; exact ⟨rfl, .inl rfl⟩
  | cons c r =>
    obtain rfl := hl c r rfl
    have hs : step q 46 = some 3 := by rcases hq with rfl | rfl <;> simp [step, dig]
    rw [fin_some _ hs]
    show digs r = true ∧ _ ∨ digs r = false ∧ _
    rcases digs_fin 3 4 r (fun c h => by simp [step, h]) (fun c _ h => by simp [step, h]) step4_dig (fun c hc h => step4_other c (hb c (by simp [hc])) h) with ⟨h1, h2⟩ | ⟨h1, h2 | ⟨h2, _⟩⟩
    · exact .inl ⟨h1, .inr h2⟩
    · exact .inr ⟨h1, .inl h2⟩
    · exact .inr ⟨h1, .inr h2⟩

/-- An exponent: nothing, or its e, a sign perhaps, and digits. -/
def stripS (l : List Int) : List Int := match l with
  | c :: r => if sg c then r else c :: r
  | [] => []
def expOk (l : List Int) : Bool := match l with
  | [] => true
  | _ :: r => digs (stripS r)
theorem finE (q : Nat) (hq : q = 1 ∨ q = 2 ∨ q = 4) (l : List Int) (hl : ∀ c r, l = c :: r → ee c = true) : okF (fin q l) = expOk l := by
  cases l with
  | nil => rcases hq with rfl | rfl | rfl <;> rfl
  | cons c r =>
    have he := hl c r rfl
    have hs : step q c = some 5 := by
      have h1 : c = 101 ∨ c = 69 := by simpa [ee] using he
      have h2 : c ≠ 46 := by omega
      have h3 : dig c = false := by simp [dig]; omega
      rcases hq with rfl | rfl | rfl <;> simp [step, he, h2, h3]
    rw [fin_some _ hs]
    show okF (fin 5 r) = digs (stripS r)
    cases r with
    | nil => rfl
    | cons c' r' =>
      cases hsg : sg c' with
      | true =>
        have e1 : stripS (c' :: r') = r' := by simp [stripS, hsg]
        rw [fin_some (q := 6) _ (by simp [step, hsg]), e1]
        rcases digs_fin 6 7 r' (fun c h => by simp [step, h]) (fun c _ h => by simp [step, h]) step7_dig (fun c _ h => step7_other c h) with ⟨h1, h2⟩ | ⟨h1, h2 | ⟨h2, _⟩⟩ <;> rw [h1, h2] <;> rfl
      | false =>
        have e1 : stripS (c' :: r') = c' :: r' := by simp [stripS, hsg]
        rw [e1]
        cases hd : dig c' with
        | false => rw [fin_none _ (by simp [step, hsg, hd])]; simp [digs, hd, okF]
        | true =>
          rw [fin_some (q := 7) _ (by simp [step, hsg, hd])]
          cases ha : r'.all dig with
          | true => rw [fin_digs 7 step7_dig r' ha]; simp only [digs, List.all_cons, hd, ha]; rfl
          | false => rw [fin_not 7 step7_dig r' (fun c _ h => step7_other c h) ha]; simp only [digs, List.all_cons, hd, ha]; rfl

/-- A number is an integer part, a fraction, an exponent. -/
theorem accept_parts (I F B : List Int) (hI : bare I) (hF : ∀ c r, F = c :: r → c = 46) (hF2 : ∀ c, c ∈ F → ee c = false) (hB : ∀ c r, B = c :: r → ee c = true) :
    accept (I ++ F ++ B) = (intOk I && fracOk F && expOk B) := by
  unfold accept
  rw [fin_append, fin_append]
  have dead0 : ∀ q, (q = 0 ∨ q = 8) → ∀ F B : List Int, (∀ c r, F = c :: r → c = 46) → (∀ c r, B = c :: r → ee c = true) → okF ((fin q F).bind fun p => fin p B) = false := by
    intro q hq F B hF hB
    cases F with
    | nil =>
      cases B with
      | nil => rcases hq with rfl | rfl <;> rfl
      | cons c r =>
        have h1 : c = 101 ∨ c = 69 := by simpa [ee] using hB c r rfl
        have h3 : dig c = false := by simp [dig]; omega
        show okF (fin q (c :: r)) = false
        rw [fin_none]
        · rfl
        · rcases hq with rfl | rfl <;> simp [step, h3, show c ≠ 48 from by omega, show c ≠ 45 from by omega]
    | cons c r =>
      obtain rfl := hF c r rfl
      rw [fin_none _ (by rcases hq with rfl | rfl <;> simp [step, dig])]; rfl
  rcases fin8 I hI with ⟨h1, h2⟩ | ⟨h1, h2⟩
  · rw [h1, Bool.true_and]
    have hfin : ∃ q, (q = 1 ∨ q = 2) ∧ fin 8 I = some q := by
      rcases h2 with h | h
      · exact ⟨1, .inl rfl, h⟩
      · exact ⟨2, .inr rfl, h⟩
    obtain ⟨q, hq, hf⟩ := hfin
    rw [hf, Option.bind_some]
    rcases finF q hq F hF hF2 with ⟨h3, h4⟩ | ⟨h3, h4⟩
    · rw [h3, Bool.true_and]
      rcases h4 with h4 | h4
      · rw [h4, Option.bind_some]; exact finE q (by omega) B hB
      · rw [h4, Option.bind_some]; exact finE 4 (by omega) B hB
    · rw [h3, Bool.false_and]
      rcases h4 with h4 | h4
      · rw [h4]; rfl
      · rw [h4, Option.bind_some]
        cases B with
        | nil => rfl
        | cons c r =>
          have h1 : c = 101 ∨ c = 69 := by simpa [ee] using hB c r rfl
          rw [fin_none]
          · rfl
          · simp [step, dig]; omega
  · rw [h1, Bool.false_and, Bool.false_and]
    rcases h2 with h2 | h2 | h2
    · rw [h2]; rfl
    · rw [h2, Option.bind_some]; exact dead0 0 (.inl rfl) F B hF hB
    · rw [h2, Option.bind_some]; exact dead0 8 (.inr rfl) F B hF hB
end Go.Proofs.Qxb6602575a.Pl
