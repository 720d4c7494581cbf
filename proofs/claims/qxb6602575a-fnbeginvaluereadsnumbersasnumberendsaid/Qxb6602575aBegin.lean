import Derived.Test.Qxb6602575aW12
import Derived.Test.Qxb6602575aRest
namespace Go.Proofs.Qxb6602575a
open Go.RowKit

theorem zzBytes34 (ao : Option Addr) (len cap : Nat) (i : Int) (w : World) (hl : len ≤ maxLen) :
    Calls Try.prog 34 #[.slice ao len cap, .int .i64 i] w fun e w' => e = .returned (.bool (decide (len ≤ 1048576))) ∧ w' = w := by
  unfold maxLen at hl
  by_cases h : len ≤ 1048576
  · rw [decide_eq_true h]
    go_enter Try.func34, Try.ntmps34
    go_wp2
    go_ret
    exact ⟨rfl, rfl⟩
  · rw [decide_eq_false h]
    go_enter Try.func34, Try.ntmps34
    go_wp2
    go_ret
    exact ⟨rfl, rfl⟩

theorem zzBeginValue_any {Q : Ending → World → Prop} (g : Nat) (pv : Value) (i : Int) (w : World) (h : Calls Try.prog 43 #[.pointer (some ⟨g, 0, none⟩), pv, .int .i64 i] w fun e w' => (∃ r, e = .returned (.int .i64 r)) ∧ Q e w') :
    Calls Try.prog 33 #[.pointer (some ⟨g, 0, none⟩), pv, .int .i64 i] w Q := by
  go_enter Try.func33, Try.ntmps33
  go_wp2_with fail
  refine h.mono ?_
  rintro e w' ⟨⟨r, rfl⟩, hq⟩
  have HQ : Hid (Q (.returned (.int .i64 r)) w') := hq
  clear hq
  go_wp2_with fail
  exact HQ.out

theorem begin_out (ao : Option Addr) (cap : Nat) (zs : List Int) (i : Int) (w : World) (h : Rd w ao zs) (hb : ¬ (zs.length ≤ 1048576 ∧ 0 ≤ i ∧ i < zs.length)) :
    Calls Try.prog 9 #[.slice ao zs.length cap, .int .i64 i] w fun e w' => e = .returned (.bool true) ∧ Below w.heap.size w w' := by
  have hm := h.1
  by_cases hl : zs.length ≤ 1048576
  · have hd : decide (zs.length ≤ 1048576) = true := decide_eq_true hl
    go_enter Try.func9, Try.ntmps9
    go_wp2_with (go_at_call 34; refine (zzBytes34 _ _ _ _ _ (by omega)).mono ?_; rintro e w' ⟨rfl, rfl⟩)
    all_goals go_ret
    all_goals exact ⟨rfl, Below.refl _ _⟩
  · have hd : decide (zs.length ≤ 1048576) = false := decide_eq_false hl
    go_enter Try.func9, Try.ntmps9
    go_wp2_with (go_at_call 34; refine (zzBytes34 _ _ _ _ _ (by omega)).mono ?_; rintro e w' ⟨rfl, rfl⟩)
    all_goals go_ret
    all_goals exact ⟨rfl, Below.refl _ _⟩

/-- A value that begins as no number. -/
theorem begin_no (ao : Option Addr) (cap : Nat) (zs : List Int) (i : Nat) (w : World) (h : Rd w ao zs) (hb : zs.length ≤ 1048576) (hi : i < zs.length) (hq : Pl.step 8 (Pl.bt zs i) = none) :
    Calls Try.prog 9 #[.slice ao zs.length cap, .int .i64 i] w fun e w' => e = .returned (.bool true) ∧ Below w.heap.size w w' := by
  have hm := h.1
  have hd : decide (zs.length ≤ 1048576) = true := decide_eq_true hb
  obtain ⟨b, off, rfl, hcell, _⟩ := rd_row h hi
  clear h
  generalize Pl.bt zs i = c at hcell hq
  have h45 : c ≠ 45 := by rintro rfl; simp [Pl.step] at hq
  have h48 : c ≠ 48 := by rintro rfl; simp [Pl.step] at hq
  have hn : (c != 45) = true := by simp [h45]
  have hg : Pl.dig c = false := by
    cases hd : Pl.dig c with
    | false => rfl
    | true => simp [Pl.step, h45, h48, hd] at hq
  have HG : Hid (Pl.dig c = false) := hg
  clear h45 h48 hg hq
  go_enter Try.func9, Try.ntmps9
  go_wp2_with (first | (go_at_call 34; refine (zzBytes34 _ _ _ _ _ (by omega)).mono ?_; rintro e w' ⟨rfl, hw⟩; replace hw := hw.symm; subst hw) | (go_at_call 32; refine (isDigit_any _ _).mono ?_; rintro e w' ⟨rfl, hw⟩; replace hw := hw.symm; subst hw; rw [HG.out]))
  all_goals go_ret
  all_goals exact ⟨rfl, Below.refl _ _⟩

/-- What the law asks of the end. -/
def RB (jj r len st more : Int) (bk : Bool) : Prop :=
  (0 ≤ jj ∧ jj < len ∧ r = jj ∧ st = 7 ∧ bk = false) ∨ (jj = len ∧ r = len ∧ st = 9 ∧ bk = false) ∨ (jj = -1 ∧ r = len ∧ st = 9 ∧ bk = (more == -1))

theorem begin_fin {g i q0 : Nat} {zs : List Int} {w5 w6 : World} {e : Ending} {jj : Int} (hi : i < zs.length) (hq : Pl.step 8 (Pl.bt zs i) = some q0)
    (hp : BNpost (fun _ q w' => Strm w' g { fresh 0 0 with number := (q : Nat), state := 7 } ∧ Only g w5 w') g (fresh 0 0) zs i q0 w5 e w6) (HJ : jj = Pl.numEnd zs i) :
    ∃ (r : Int) (S : Str), e = .returned (.int .i64 r) ∧ Strm w6 g S ∧ Only g w5 w6 ∧ RB jj r zs.length S.state (Pl.numEnd (zs ++ [48]) i) S.broken := by
  obtain ⟨w2, hs2, ho2, hp⟩ := hp
  have hr : Pl.run 8 (zs.drop i) = ((Pl.run q0 (zs.drop (i + 1))).1 + 1, (Pl.run q0 (zs.drop (i + 1))).2) := by
    rw [Pl.drop_cons zs i hi, Pl.run_some _ hq]
  have hj : jj = if Pl.acc (Pl.run 8 (zs.drop i)).2 then ((i + (Pl.run 8 (zs.drop i)).1 : Nat) : Int) else -1 := by
    rw [HJ, Pl.numEnd_run]; unfold Pl.res Pl.addN
    split
    · rw [if_neg (by omega)]; omega
    · rfl
  have hm : Pl.numEnd (zs ++ [48]) i = Pl.addN i (Pl.res 8 (zs.drop i ++ [48])) := by
    rw [Pl.numEnd_run, List.drop_append_of_le_length (by omega)]
  have hl : (zs.drop i).length = zs.length - i := by simp
  have m1 : Pl.acc (Pl.run 8 (zs.drop i)).2 = false → (Pl.run 8 (zs.drop i)).1 < zs.length - i → Pl.numEnd (zs ++ [48]) i = -1 := by
    intro h1 h2; rw [hm, Pl.more_bad 8 _ h1 (by omega)]; rfl
  have m2 : Pl.acc (Pl.run 8 (zs.drop i)).2 = false → (Pl.run 8 (zs.drop i)).1 = zs.length - i → 0 ≤ Pl.numEnd (zs ++ [48]) i := by
    intro h1 h2; rw [hm]; have := Pl.more_ok 8 (by omega) _ h1 (by omega); unfold Pl.addN; split <;> omega
  rw [hr] at hj m1 m2
  simp only at hj m1 m2
  clear hr hm HJ
  unfold NRpost at hp
  generalize (Pl.run q0 (zs.drop (i + 1))).1 = a at hp hj m1 m2
  generalize (Pl.run q0 (zs.drop (i + 1))).2 = q at hp hj m1 m2
  rcases hp with ⟨h1, rfl, h3, h4⟩ | ⟨h1, h2, rfl, h3, h4⟩ | ⟨h1, h2, rfl, h3, h4⟩
  · refine ⟨_, _, rfl, h3, ho2.trans h4, ?_⟩
    cases ha : Pl.acc q with
    | true =>
      rw [ha, if_pos rfl] at hj
      exact .inr (.inl ⟨by omega, rfl, rfl, rfl⟩)
    | false =>
      rw [ha] at hj
      have := m2 ha (by omega)
      refine .inr (.inr ⟨by simpa using hj, rfl, rfl, ?_⟩)
      show false = _
      symm; rw [beq_eq_false_iff_ne]; omega
  · rw [h2, if_pos rfl] at hj
    exact ⟨_, _, rfl, h3, h4, .inl ⟨by omega, by omega, by omega, rfl, rfl⟩⟩
  · rw [h2] at hj
    have := m1 h2 (by omega)
    refine ⟨_, _, rfl, h3, ho2.trans h4, .inr (.inr ⟨by simpa using hj, rfl, rfl, ?_⟩)⟩
    rw [this]; rfl

set_option maxHeartbeats 2000000 in
set_option maxRecDepth 100000 in
theorem begin_yes (ao : Option Addr) (cap q0 : Nat) (zs : List Int) (i : Nat) (w : World) (h : Rd w ao zs) (hn : ao = none → cap = 0) (hb : zs.length ≤ 1048576) (hi : i < zs.length) (hq : Pl.step 8 (Pl.bt zs i) = some q0) :
    Calls Try.prog 9 #[.slice ao zs.length cap, .int .i64 i] w fun e w' => e = .returned (.bool true) ∧ Below w.heap.size w w' := by
  have hm := h.1
  have hd : decide (zs.length ≤ 1048576) = true := decide_eq_true hb
  obtain ⟨b, off, rfl, hcell, _⟩ := rd_row h hi
  have HR : Hid (Rd w (some ⟨b, off, none⟩) zs) := h
  have HQ : Hid (Pl.step 8 (Pl.bt zs i) = some q0) := hq
  clear h hq hn
  generalize hc : Pl.bt zs i = c at hcell
  have HC : Hid (Pl.bt zs i = c) := hc
  clear hc
  go_enter Try.func9, Try.ntmps9
  go_upto_region 8 with (go_at_call 34; refine (zzBytes34 _ _ _ _ _ (by omega)).mono ?_; rintro e w' ⟨rfl, hw⟩; replace hw := hw.symm; subst hw)
  go_cut [36] (fun t wx => t = .bool false ∧ w = wx)
  case first =>
    have hs := HQ.out
    rw [HC.out] at hs
    by_cases h45 : c = 45
    · have hn : (c != 45) = false := by simp [h45]
      clear h45 hs
      go_wp2_with fail
      go_meet
      exact ⟨rfl, rfl⟩
    · have hn : (c != 45) = true := by simp [h45]
      have HG : Hid (Pl.dig c = true) := by
        show _ = _
        cases hd : Pl.dig c with
        | true => rfl
        | false =>
          have h48 : c ≠ 48 := by rintro rfl; simp [Pl.dig] at hd
          simp [Pl.step, h45, h48, hd] at hs
      clear h45 hs
      go_wp2_with (go_at_call 32; refine (isDigit_any _ _).mono ?_; rintro e w' ⟨rfl, hw⟩; replace hw := hw.symm; subst hw; rw [HG.out])
      go_meet
      exact ⟨rfl, rfl⟩
  case rest =>
  obtain ⟨rfl, rfl⟩ := hcut
  go_wp2_with fail
  refine (clone_any _ _ _ zs _ HR.out rfl (fun h => by cases h) (by omega)).mono ?_
  rintro e w1 ⟨ap, rfl, hp1, b1⟩
  have HR1 : Hid (Rd w1 ap zs) := rd_of_owns hp1
  have HP1 : Hid (w1.ownsRow w.heap.size 5 1 (.slice ap zs.length zs.length) zs.length (bys zs)) := hp1
  have HB1 : Hid (Below w.heap.size w w1) := b1
  have HZ1 : Hid (w.heap.size ≤ w1.heap.size) := b1.size
  clear hp1 b1 hcell
  go_wp2_with fail
  refine (zzNumberEnd_any _ _ _ zs i _ HR1.out rfl (by omega) (by omega)).mono ?_
  rintro e w4 ⟨rfl, hw⟩
  replace hw := hw.symm
  subst hw
  rw [Int.toNat_natCast]
  generalize hj : Pl.numEnd zs i = jj
  have HJ : Hid (jj = Pl.numEnd zs i) := hj.symm
  clear hj
  go_wp2_with fail
  refine (fresh_any _ _ _).mono ?_
  rintro e w4 ⟨rfl, b4⟩
  go_wp2_with fail
  refine (newStream_any (fresh 0 0) _).mono ?_
  rintro e w5 ⟨g, rfl, hg5, hs5, b5⟩
  have hsz4 := b4.size
  have HS5 : Hid (Strm w5 g (fresh 0 0)) := hs5
  have hgw : w.heap.size ≤ g := by have := HZ1.out; omega
  have HB5 : Hid (Below w.heap.size w w5) := (HB1.out.trans (b4.mono HZ1.out)).trans (b5.mono (by have := HZ1.out; omega))
  have HP5 : Hid (w5.ownsRow 0 5 1 (.slice ap zs.length zs.length) zs.length (bys zs)) := (owns_below (owns_below HP1.out b4) b5).baseLe (Nat.zero_le _)
  clear b4 hg5 hs5 b5 hsz4 HR1 HP1 HB1 HZ1
  go_wp2_with fail
  refine zzBeginValue_any g _ _ _ ?_
  refine (beginNum_any (fun e q w' => Strm w' g { fresh 0 0 with number := (q : Nat), state := 7 } ∧ Only g w5 w') g i q0 ap zs (fresh 0 0) _ HS5.out HP5.out (by omega) hi HQ.out rfl rfl ?_).mono ?_
  · intro e q W _ _ hs ho
    refine (valueEnded_fresh g _ _ _ W hs rfl rfl).mono ?_
    rintro e' w' ⟨rfl, h1, h2⟩
    exact ⟨rfl, h1, ho.trans h2⟩
  intro e w6 hpost
  obtain ⟨r, S, rfl, hs6, ho6, hrf⟩ := begin_fin hi HQ.out hpost HJ.out
  refine ⟨⟨r, rfl⟩, ?_⟩
  have HP6 : Hid (w6.ownsRow 0 5 1 (.slice ap zs.length zs.length) zs.length (bys zs)) := own_strm HP5.out HS5.out (by decide) ho6
  have HB6 : Hid (Below w.heap.size w w6) := HB5.out.trans (ho6.below hgw HB5.out.size)
  have HRF : Hid (RB jj r zs.length S.state (Pl.numEnd (zs ++ [48]) i) S.broken) := hrf
  have HS6 : Hid (Strm w6 g S) := hs6
  clear hpost hs6 ho6 hrf HJ HP5 HS5 HB5
  go_wp2_with fail
  refine (viewOf_any S g _ HS6.out).mono ?_
  rintro e w7 ⟨rfl, b7⟩
  have HP7 : Hid (w7.ownsRow 0 5 1 (.slice ap zs.length zs.length) zs.length (bys zs)) := owns_below HP6.out b7
  have hsz7 : w.heap.size ≤ w7.heap.size := by have := HB6.out.size; have := b7.size; omega
  have HB7 : Hid (Below w.heap.size w w7) := HB6.out.trans (b7.mono HB6.out.size)
  clear b7 HP6 HB6 HS6
  have hS20 : S.cells[20]? = some (.bool S.broken) := rfl
  have hS4 : S.cells[4]? = some (.int .u8 S.state) := rfl
  go_upto_region 15 with (refine wpList_store_new (o := { dst := none, op := .store 42 (.tmp 9) (.tmp 49), type := _, pos := _, after := _, guard := _ }) rfl 42 _ _ rfl S.cells _ rfl rfl Try.info42 rfl (Str.one _) ?_)
  rcases HRF.out with ⟨h1, h2, h3, h4, h5⟩ | ⟨h1, h3, h4, h5⟩ | ⟨h1, h2, h3, h4⟩
  · subst h3
    rw [h5] at hS20
    rw [h4] at hS4
    clear h4 h5 HRF
    go_wp2_with fail
    go_ret
    exact ⟨rfl, HB7.out.alloc hsz7 _⟩
  · subst h3 h1
    rw [h5] at hS20
    rw [h4] at hS4
    clear h4 h5 HRF
    go_wp2_with fail
    go_ret
    exact ⟨rfl, HB7.out.alloc hsz7 _⟩
  · subst h2 h1
    rw [h3] at hS4
    have HBk : Hid (S.broken = (Pl.numEnd (zs ++ [48]) i == -1)) := h4
    clear h3 h4 HRF
    have hnb : ((-1 : Int) == (zs.length : Int)) = false := by rw [beq_eq_false_iff_ne]; omega
    go_wp2_with fail
    have b8 : Below w7.heap.size w7 ((w7.alloc (Obj.cells S.cells 42)).alloc (Obj.cells #[Value.int IntKind.u8 48] 5)) := ((Below.refl _ _).alloc (Nat.le_refl _) _).alloc (by simp) _
    have h48 : Rd ((w7.alloc (Obj.cells S.cells 42)).alloc (Obj.cells #[Value.int IntKind.u8 48] 5)) (some ⟨w7.heap.size + 1, 0, none⟩) [48] := by
      have := World.ownsRow_lit (base := 0) (e := 5) (size := 1) (w7.alloc (Obj.cells S.cells 42)) #[Value.int IntKind.u8 48] 1 (Nat.zero_le _) (by decide) rfl
      rw [World.size_alloc] at this
      exact rd_of_owns this
    refine (concat_any _ _ zs.length 1 _ _ zs [48] _ (rd_below (rd_of_owns HP7.out) b8) h48 rfl rfl (by omega)).mono ?_
    rintro e w9 ⟨a9, rfl, h9, b9⟩
    have HR9 : Hid (Rd w9 a9 (zs ++ [48])) := rd_of_owns h9
    have hv : ∀ k, w9.cell? ⟨w7.heap.size, k, none⟩ = S.cells[k]? := by
      intro k
      rw [b9.cell (p := ⟨w7.heap.size, k, none⟩) (by show w7.heap.size < _; rw [World.size_alloc, World.size_alloc]; omega)]
      have : ((w7.alloc (Obj.cells S.cells 42)).alloc (Obj.cells #[Value.int IntKind.u8 48] 5)).heap[w7.heap.size]? = some (Obj.cells S.cells 42) := by
        rw [Below.heap_alloc _ _ _ (by rw [World.size_alloc]; omega)]; exact heap_alloc_last w7 _
      exact cell_of_row _ _ k _ _ _ this
    have hv20 : w9.cell? ⟨w7.heap.size, 20, none⟩ = some (.bool S.broken) := hv 20
    have hv4 : w9.cell? ⟨w7.heap.size, 4, none⟩ = some (.int .u8 9) := by rw [hv 4]; exact hS4
    have HB9 : Hid (Below w.heap.size w w9) := (HB7.out.trans (b8.mono hsz7)).trans (b9.mono (by rw [World.size_alloc, World.size_alloc]; omega))
    have HL9 : Hid ((zs ++ [48]).length = zs.length + 1) := by show _ = _; simp
    clear h9 b9 b8 h48 hS20 hS4 hv HB7 HP7 hsz7
    go_wp2_with fail
    go_quiet ((go_at_call 14; exact Calls.quiet_of_same (zzNumberEnd_any _ _ _ (zs ++ [48]) i _ HR9.out HL9.out (by omega) (by omega))))
    go_wp2_with fail
    go_ret
    refine ⟨ret_bool ?_, below_drewN HB9.out nq⟩
    rw [HBk.out]; exact beq_self_eq_true _

theorem begin_core (ao : Option Addr) (len cap : Nat) (zs : List Int) (i : Int) (w : World) (h : Rd w ao zs) (hl : zs.length = len) (hn : ao = none → cap = 0) :
    Calls Try.prog 9 #[.slice ao len cap, .int .i64 i] w fun e w' => e = .returned (.bool true) ∧ Below w.heap.size w w' := by
  subst hl
  by_cases hb : zs.length ≤ 1048576 ∧ 0 ≤ i ∧ i < zs.length
  · obtain ⟨h1, h2, h3⟩ := hb
    obtain ⟨n, rfl⟩ := Int.eq_ofNat_of_zero_le h2
    cases hq : Pl.step 8 (Pl.bt zs n) with
    | none => exact begin_no ao cap zs n w h h1 (by omega) hq
    | some q0 => exact begin_yes ao cap q0 zs n w h hn h1 (by omega) hq
  · exact begin_out ao cap zs i w h hb
end Go.Proofs.Qxb6602575a
