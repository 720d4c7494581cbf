/- jsb1PhaseOf is the machine's state. Nothing of Go. -/
import Derived.Test.Qxb6602575aPlain4
import Derived.Test.Qxb6602575aPlain5
namespace Go.Proofs.Qxb6602575a.Pl

def lo1 (t : List Int) : Nat := if isB t 0 45 then 1 else 0
def phI (t : List Int) : Nat := if t.length = lo1 t then 0 else if t.length = lo1 t + 1 ∧ bt t (lo1 t) = 48 then 1 else 2
def phF (t : List Int) : Nat := if first pt t t.length < t.length then (if first pt t t.length + 1 = t.length then 3 else 4) else phI t
def phE (t : List Int) (e : Nat) : Nat := if e + 1 = t.length then 5 else if e + 2 = t.length ∧ sg (bt t (e + 1)) = true then 6 else 7
/-- jsb1PhaseOf. -/
def phOf (t : List Int) : Nat := if first ee t t.length < t.length then phE t (first ee t t.length) else phF t

theorem phOf_e (t : List Int) (k : Nat) (hk : k < t.length) (ha : ∀ j, j < k → ee (bt t j) = false) (he : ee (bt t k) = true) : phOf t = phE t k := by
  have := first_hit ee t t.length k (Nat.le_refl _) hk ha he
  unfold phOf; rw [this, if_pos hk]
theorem phOf_noE (t : List Int) (ha : ∀ j, j < t.length → ee (bt t j) = false) : phOf t = phF t := by
  have := first_none ee t t.length (Nat.le_refl _) ha
  unfold phOf; rw [this, if_neg (by omega)]
theorem phF_p (t : List Int) (k : Nat) (hk : k < t.length) (ha : ∀ j, j < k → pt (bt t j) = false) (he : pt (bt t k) = true) : phF t = if k + 1 = t.length then 3 else 4 := by
  have := first_hit pt t t.length k (Nat.le_refl _) hk ha he
  unfold phF; rw [this, if_pos hk]
theorem phF_noP (t : List Int) (ha : ∀ j, j < t.length → pt (bt t j) = false) : phF t = phI t := by
  have := first_none pt t t.length (Nat.le_refl _) ha
  unfold phF; rw [this, if_neg (by omega)]

/-! ### the state behind all of a text -/
theorem phI_law (t : List Int) (q : Nat) (hb : bare t) (hne : t ≠ []) (h : fin 8 t = some q) : phI t = q := by
  cases t with
  | nil => exact absurd rfl hne
  | cons c r =>
    have key : ∀ (l : List Int) (p : Nat), bare l → fin 0 l = some p → (if l.length = 0 then 0 else if l.length = 1 ∧ bt l 0 = 48 then 1 else 2) = p := by
      intro l p hbl hl
      cases l with
      | nil => simp [fin] at hl; simp [← hl]
      | cons a s =>
        by_cases ha : a = 48
        · subst ha
          rw [fin_some (q := 1) _ (by simp [step])] at hl
          cases s with
          | nil => simp [fin] at hl; simp [← hl, bt]
          | cons b s' => rw [fin_none _ (step1_other b (hbl b (by simp)).1 (hbl b (by simp)).2)] at hl; cases hl
        · have hbt : bt (a :: s) 0 = a := bt_cons_zero a s
          rw [if_neg (by simp), if_neg (by rw [hbt]; intro hh; exact ha hh.2)]
          cases hd : dig a with
          | false => rw [fin_none _ (by simp [step, ha, hd])] at hl; cases hl
          | true =>
            rw [fin_some (q := 2) _ (by simp [step, ha, hd])] at hl
            cases hal : s.all dig with
            | true => rw [fin_digs 2 step2_dig s hal] at hl; exact Option.some.inj hl
            | false =>
              rw [fin_not 2 step2_dig s (fun c' hc' hh => step2_other c' (hbl c' (by simp [hc'])).1 (hbl c' (by simp [hc'])).2 hh) hal] at hl
              cases hl
    by_cases hc : c = 45
    · subst hc
      rw [fin_some (q := 0) _ (by simp [step])] at h
      have k1 := key r q (fun c hc => hb c (by simp [hc])) h
      have hlo : lo1 (45 :: r) = 1 := by simp [lo1, isB, bt]
      unfold phI
      rw [hlo]
      rw [show bt (45 :: r) 1 = bt r 0 from bt_cons_succ 45 r 0]
      simpa [List.length_cons] using k1
    · have e8 : step 8 c = step 0 c := by simp [step, hc]
      have hf : fin 8 (c :: r) = fin 0 (c :: r) := by simp only [fin, e8]
      rw [hf] at h
      have k1 := key (c :: r) q hb h
      have hlo : lo1 (c :: r) = 0 := by simp [lo1, isB, bt, hc]
      unfold phI
      rw [hlo]
      simpa using k1

theorem mem_bt (t : List Int) (c : Int) (h : c ∈ t) : ∃ j, j < t.length ∧ bt t j = c := by
  obtain ⟨j, hj, rfl⟩ := List.mem_iff_getElem.1 h
  exact ⟨j, hj, by unfold bt; simp [hj]⟩
theorem bt_mem (t : List Int) (j : Nat) (h : j < t.length) : bt t j ∈ t := by
  unfold bt; simp [h]

theorem fin_bind (ph : Nat) (a b : List Int) (q : Nat) (h : fin ph (a ++ b) = some q) : ∃ p, fin ph a = some p ∧ fin p b = some q := by
  rw [fin_append] at h
  cases hf : fin ph a with
  | none => rw [hf] at h; cases h
  | some p => rw [hf] at h; exact ⟨p, rfl, h⟩

/-- What an integer part, alive, leaves. -/
theorem fin8_bare (I : List Int) (q : Nat) (hb : bare I) (h : fin 8 I = some q) : q = 8 ∨ q = 0 ∨ q = 1 ∨ q = 2 := by
  rcases fin8 I hb with ⟨_, h1 | h1⟩ | ⟨_, h1 | h1 | h1⟩ <;> rw [h1] at h <;> simp at h <;> omega

theorem phF_law (t : List Int) (q : Nat) (hne : t ≠ []) (hE : ∀ j, j < t.length → ee (bt t j) = false) (h : fin 8 t = some q) : phF t = q := by
  have hE' : ∀ c, c ∈ t → ee c = false := fun c hc => by obtain ⟨j, hj, rfl⟩ := mem_bt t c hc; exact hE j hj
  by_cases hp : first pt t t.length < t.length
  · -- a point
    have hd := first_le pt t t.length
    have hI : t.takeWhile (fun c => !pt c) = t.take (first pt t t.length) := by
      rw [tw_take]; unfold first; rw [List.take_of_length_le (Nat.le_refl t.length)]
    have hF : t.dropWhile (fun c => !pt c) = t.drop (first pt t t.length) := by
      rw [dw_drop]; unfold first; rw [List.take_of_length_le (Nat.le_refl t.length)]
    unfold phF
    rw [if_pos hp]
    generalize first pt t t.length = d at hp hI hF
    have hbI : bare (t.take d) := fun c hc => by
      rw [← hI] at hc; have := tw_mem _ _ _ hc; exact ⟨by simpa using this.1, hE' c this.2⟩
    have hdr := drop_cons t d hp
    have h46 : bt t d = 46 := by
      rw [hdr] at hF; have := dw_head _ _ _ _ hF; simpa [pt] using this
    have hsplit : t = t.take d ++ (bt t d :: t.drop (d + 1)) := by rw [← hdr]; exact (List.take_append_drop d t).symm
    rw [hsplit] at h
    obtain ⟨p, hp1, hp2⟩ := fin_bind 8 _ _ q h
    have hs : step p 46 = some 3 := by
      rw [h46] at hp2
      cases hst : step p 46 with
      | none => rw [fin_none _ hst] at hp2; cases hp2
      | some r =>
        rcases fin8_bare _ _ hbI hp1 with rfl | rfl | rfl | rfl
        · simp [step, dig] at hst
        · simp [step, dig] at hst
        · simpa [step] using hst.symm
        · simpa [step, dig] using hst.symm
    rw [h46, fin_some _ hs] at hp2
    by_cases hl : d + 1 = t.length
    · rw [if_pos hl]
      rw [List.drop_of_length_le (by omega)] at hp2
      simpa [fin] using hp2
    · rw [if_neg hl]
      have hne2 : t.drop (d + 1) ≠ [] := by intro e; have := congrArg List.length e; simp at this; omega
      rcases digs_fin 3 4 (t.drop (d + 1)) (fun c h => by simp [step, h]) (fun c _ h => by simp [step, h]) step4_dig (fun c hc h => step4_other c (hE' c (List.mem_of_mem_drop hc)) h) with ⟨_, h2⟩ | ⟨_, h2 | ⟨_, h3⟩⟩
      · rw [h2] at hp2; exact Option.some.inj hp2
      · rw [h2] at hp2; cases hp2
      · exact absurd h3 hne2
  · unfold phF
    rw [if_neg hp]
    refine phI_law t q (fun c hc => ⟨?_, hE' c hc⟩) hne h
    cases hpc : pt c with
    | false => rfl
    | true =>
      exfalso; apply hp
      obtain ⟨j, hj, rfl⟩ := mem_bt t c hc
      have h1 : first pt t t.length = (t.takeWhile (fun c => !pt c)).length := by unfold first; rw [List.take_of_length_le (Nat.le_refl t.length)]
      rw [h1]
      rcases Nat.lt_or_ge (t.takeWhile (fun c => !pt c)).length t.length with h2 | h2
      · exact h2
      · exfalso
        have h3 : t.takeWhile (fun c => !pt c) = t := by rw [tw_take]; exact List.take_of_length_le h2
        have := (tw_mem (fun c => !pt c) t (bt t j) (by rw [h3]; exact bt_mem t j hj)).1
        rw [hpc] at this; cases this

/-- jsb1PhaseOf tells where the machine stands. -/
theorem phOf_law (t : List Int) (q : Nat) (hne : t ≠ []) (h : fin 8 t = some q) : phOf t = q := by
  by_cases hp : first ee t t.length < t.length
  · have hI : t.takeWhile (fun c => !ee c) = t.take (first ee t t.length) := by
      rw [tw_take]; unfold first; rw [List.take_of_length_le (Nat.le_refl t.length)]
    have hF : t.dropWhile (fun c => !ee c) = t.drop (first ee t t.length) := by
      rw [dw_drop]; unfold first; rw [List.take_of_length_le (Nat.le_refl t.length)]
    unfold phOf
    rw [if_pos hp]
    generalize first ee t t.length = e at hp hI hF
    have hdr := drop_cons t e hp
    have hee : ee (bt t e) = true := by
      rw [hdr] at hF; have := dw_head _ _ _ _ hF; simpa using this
    have hsplit : t = t.take e ++ (bt t e :: t.drop (e + 1)) := by rw [← hdr]; exact (List.take_append_drop e t).symm
    have hh := h
    rw [hsplit] at hh
    obtain ⟨p, hp1, hp2⟩ := fin_bind 8 _ _ q hh
    have h101 : bt t e = 101 ∨ bt t e = 69 := by simpa [ee] using hee
    have hnd : dig (bt t e) = false := by simp [dig]; omega
    have hs : step p (bt t e) = some 5 := by
      cases hst : step p (bt t e) with
      | none => rw [fin_none _ hst] at hp2; cases hp2
      | some r =>
        have hpr := fin_range 8 p _ (by omega) hp1
        have : p = 0 ∨ p = 1 ∨ p = 2 ∨ p = 3 ∨ p = 4 ∨ p = 5 ∨ p = 6 ∨ p = 7 ∨ p = 8 := by omega
        have n46 : bt t e ≠ 46 := by omega
        have n48 : bt t e ≠ 48 := by omega
        have n45 : bt t e ≠ 45 := by omega
        have nsg : sg (bt t e) = false := by simp [sg]; omega
        rcases this with rfl | rfl | rfl | rfl | rfl | rfl | rfl | rfl | rfl <;> simp [step, hee, hnd, n46, n48, n45, nsg] at hst <;> rw [hst]
    rw [fin_some _ hs] at hp2
    have hlen : (t.drop (e + 1)).length = t.length - (e + 1) := by simp
    unfold phE
    by_cases h1 : e + 1 = t.length
    · rw [if_pos h1]
      rw [List.drop_of_length_le (by omega)] at hp2
      simpa [fin] using hp2
    · rw [if_neg h1]
      have hd2 := drop_cons t (e + 1) (by omega)
      rw [hd2] at hp2
      cases hsg : sg (bt t (e + 1)) with
      | true =>
        rw [fin_some (q := 6) _ (by simp [step, hsg])] at hp2
        by_cases h2 : e + 2 = t.length
        · rw [if_pos ⟨h2, rfl⟩]
          rw [List.drop_of_length_le (by omega)] at hp2
          simpa [fin] using hp2
        · rw [if_neg (fun hh => h2 hh.1)]
          rcases digs_fin 6 7 (t.drop (e + 1 + 1)) (fun c h => by simp [step, h]) (fun c _ h => by simp [step, h]) step7_dig (fun c _ h => step7_other c h) with ⟨_, h3⟩ | ⟨_, h3 | ⟨_, h4⟩⟩
          · rw [h3] at hp2; exact Option.some.inj hp2
          · rw [h3] at hp2; cases hp2
          · exfalso; have := congrArg List.length h4; simp at this; omega
      | false =>
        rw [if_neg (fun hh => by cases hh.2)]
        cases hd : dig (bt t (e + 1)) with
        | false => rw [fin_none _ (by simp [step, hsg, hd])] at hp2; cases hp2
        | true =>
          rw [fin_some (q := 7) _ (by simp [step, hsg, hd])] at hp2
          cases ha : (t.drop (e + 1 + 1)).all dig with
          | true => rw [fin_digs 7 step7_dig _ ha] at hp2; exact Option.some.inj hp2
          | false => rw [fin_not 7 step7_dig _ (fun c _ h => step7_other c h) ha] at hp2; cases hp2
  · unfold phOf
    rw [if_neg hp]
    refine phF_law t q hne (fun j hj => ?_) h
    cases hpc : ee (bt t j) with
    | false => rfl
    | true =>
      exfalso; apply hp
      have h1 : first ee t t.length = (t.takeWhile (fun c => !ee c)).length := by unfold first; rw [List.take_of_length_le (Nat.le_refl t.length)]
      rw [h1]
      rcases Nat.lt_or_ge (t.takeWhile (fun c => !ee c)).length t.length with h2 | h2
      · exact h2
      · exfalso
        have h3 : t.takeWhile (fun c => !ee c) = t := by rw [tw_take]; exact List.take_of_length_le h2
        have := (tw_mem (fun c => !ee c) t (bt t j) (by rw [h3]; exact bt_mem t j hj)).1
        rw [hpc] at this; cases this

/-- The three ways of jsb1NumberScan. -/
theorem scan_all (t : List Int) (hn : 1 ≤ (run 8 t).1) (h : (run 8 t).1 = t.length) : phOf t = (run 8 t).2 :=
  phOf_law t _ (by rintro rfl; simp [run_nil] at hn) (run_fin 8 t h)
theorem scan_cut (t : List Int) (hn : 1 ≤ (run 8 t).1) : phOf (t.take (run 8 t).1) = (run 8 t).2 := by
  have hle := run_le 8 t
  have h := run_fin 8 (t.take (run 8 t).1) (by rw [run_take_full]; simp; omega)
  rw [run_take_full] at h
  exact phOf_law _ _ (by intro e; have := congrArg List.length e; rw [List.length_take, List.length_nil] at this; omega) h
theorem scan_bad (t : List Int) (hn : 1 ≤ (run 8 t).1) (ha : acc (run 8 t).2 = false) : phOf (t.take (run 8 t).1 ++ [49]) = nx (run 8 t).2 := by
  have hle := run_le 8 t
  have h := run_fin 8 (t.take (run 8 t).1) (by rw [run_take_full]; simp; omega)
  rw [run_take_full] at h
  have hq := fin_range 8 _ _ (by omega) h
  refine phOf_law _ _ (by simp) ?_
  rw [fin_append, h, Option.bind_some]
  generalize hqq : (run 8 t).2 = q at h hq ha
  have h8 : q ≠ 8 := by
    rintro rfl
    have : ∀ (l : List Int) (ph : Nat), l ≠ [] → fin ph l ≠ some 8 := by
      intro l
      induction l with
      | nil => intro ph h; exact absurd rfl h
      | cons c r ih =>
        intro ph _ hf
        cases hs : step ph c with
        | none => rw [fin_none _ hs] at hf; cases hf
        | some p =>
          rw [fin_some _ hs] at hf
          cases r with
          | nil => simp [fin] at hf; have := step_range _ _ _ hs; omega
          | cons c' r' => exact ih p (by simp) hf
    exact this _ 8 (by intro e; have := congrArg List.length e; rw [List.length_take, List.length_nil] at this; omega) h
  have : q = 0 ∨ q = 1 ∨ q = 2 ∨ q = 3 ∨ q = 4 ∨ q = 5 ∨ q = 6 ∨ q = 7 := by omega
  rcases this with rfl | rfl | rfl | rfl | rfl | rfl | rfl | rfl <;> first | (exact absurd ha (by decide)) | decide
end Go.Proofs.Qxb6602575a.Pl
