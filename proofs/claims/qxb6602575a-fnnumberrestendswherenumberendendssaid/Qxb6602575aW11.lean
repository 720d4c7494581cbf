import Derived.Test.Qxb6602575aW10
import Derived.Test.Qxb6602575aPlain5
import Derived.Test.Qxb6602575aW5
namespace Go.Proofs.Qxb6602575a
open Go.RowKit

/-- What numberRest leaves: the piece is at its end; the number ended within it (VE: what valueEnded makes of it); it is broken. -/
def NRpost (VE : Nat → Nat → World → Prop) (g : Nat) (s : Str) (zs : List Int) (i ph : Nat) (w : World) (e : Ending) (w' : World) : Prop :=
  (i + (Pl.run ph (zs.drop i)).1 = zs.length ∧ e = .returned (.int .i64 zs.length) ∧ Strm w' g { s with number := ((Pl.run ph (zs.drop i)).2 : Nat) } ∧ Only g w w') ∨
  (i + (Pl.run ph (zs.drop i)).1 < zs.length ∧ Pl.acc (Pl.run ph (zs.drop i)).2 = true ∧ e = .returned (.int .i64 (i + (Pl.run ph (zs.drop i)).1 : Nat)) ∧ VE (i + (Pl.run ph (zs.drop i)).1) (Pl.run ph (zs.drop i)).2 w') ∨
  (i + (Pl.run ph (zs.drop i)).1 < zs.length ∧ Pl.acc (Pl.run ph (zs.drop i)).2 = false ∧ e = .returned (.int .i64 zs.length) ∧ Strm w' g { s with number := (Pl.nx (Pl.run ph (zs.drop i)).2 : Nat), broken := true } ∧ Only g w w')

section
variable {VE : Nat → Nat → World → Prop} {g : Nat} {s : Str} {zs : List Int} {i ph : Nat} {w : World}
theorem NR_done {j q : Nat} {w' : World} {e : Ending} (h : Pl.At ph zs i j q) (hj : j = zs.length) (he : e = .returned (.int .i64 zs.length)) (hs : Strm w' g { s with number := (q : Nat) }) (ho : Only g w w') : NRpost VE g s zs i ph w e w' := by
  obtain ⟨h1, h2⟩ := h.done hj
  exact .inl ⟨h1, he, by rw [h2]; exact hs, ho⟩
theorem NR_ended {j q : Nat} {w' : World} {e : Ending} (h : Pl.At ph zs i j q) (hj : j < zs.length) (hs : Pl.step q (Pl.bt zs j) = none) (ha : Pl.acc q = true) (he : e = .returned (.int .i64 (j : Nat))) (hv : VE j q w') : NRpost VE g s zs i ph w e w' := by
  obtain ⟨h1, h2⟩ := h.stop hj hs
  exact .inr (.inl ⟨by rw [h1]; exact hj, by rw [h2]; exact ha, by rw [h1]; exact he, by rw [h1, h2]; exact hv⟩)
theorem NR_bad {j q : Nat} {w' : World} {e : Ending} (h : Pl.At ph zs i j q) (hj : j < zs.length) (hs : Pl.step q (Pl.bt zs j) = none) (ha : Pl.acc q = false) (he : e = .returned (.int .i64 zs.length)) (hm : Strm w' g { s with number := (Pl.nx q : Nat), broken := true }) (ho : Only g w w') :
    NRpost VE g s zs i ph w e w' := by
  obtain ⟨h1, h2⟩ := h.stop hj hs
  exact .inr (.inr ⟨by rw [h1]; exact hj, by rw [h2]; exact ha, he, by rw [h2]; exact hm, ho⟩)
end

set_option maxHeartbeats 4000000 in
set_option maxRecDepth 100000 in
theorem numberRest_any (VE : Nat → Nat → World → Prop) (g i ph : Nat) (ao : Option Addr) (zs : List Int) (s : Str) (w : World) (hs : Strm w g s) (hown : w.ownsRow 0 5 1 (.slice ao zs.length zs.length) zs.length (bys zs))
    (hz : zs.length ≤ 1099511627776) (hi : i ≤ zs.length) (hph : ph ≤ 7) (hn : s.number = (ph : Nat)) (hb : s.broken = false)
    (hV : ∀ (e q : Nat) (W : World), i ≤ e → e < zs.length → Strm W g { s with number := (q : Nat) } → Only g w W →
      Calls Try.prog 45 #[.pointer (some ⟨g, 0, none⟩), .slice ao zs.length zs.length, .int .i64 e] W fun e' w' => e' = .returned (.tuple #[]) ∧ VE e q w') :
    Calls Try.prog 40 #[.pointer (some ⟨g, 0, none⟩), .slice ao zs.length zs.length, .int .i64 i] w fun e w' => NRpost VE g s zs i ph w e w' := by
  have HV : Hid (_) := hV
  have HS : Hid (Strm w g s) := hs
  have HO : Hid (w.ownsRow 0 5 1 (.slice ao zs.length zs.length) zs.length (bys zs)) := hown
  have HB : Hid (s.broken = false) := hb
  have HN : Hid (s.number = (ph : Nat)) := hn
  clear hV hs hown hb hn
  have hs0 : Strm w g { s with number := (ph : Nat) } := by have := HN.out; rw [← this]; exact HS.out
  go_enter Try.func40, Try.ntmps40
  go_wp2_with fail
  go_loopw [2] (fun t wr => ∃ j q : Nat, i ≤ j ∧ j ≤ zs.length ∧ q ≤ 7 ∧ t = .int .i64 j ∧ Strm wr g { s with number := (q : Nat) } ∧ Only g w wr ∧ Pl.At ph zs i j q) (fun t _ => zs.length - (intOf t).toNat)
  case atStart => exact ⟨i, ph, Nat.le_refl _, hi, hph, rfl, hs0, Only.refl _ _, Pl.At.refl _ _ _⟩
  case round =>
    clear hs0
    obtain ⟨j, q, hij, hj, hq, rfl, hs, ho, hat⟩ := hrel
    have HT : Hid (Pl.At ph zs i j q) := hat
    have HS2 : Hid (Strm wr g { s with number := (q : Nat) }) := hs
    have HO2 : Hid (Only g w wr) := ho
    clear hat hs ho
    by_cases hlt : j < zs.length
    · obtain ⟨b, off, rfl, hcell, hbl⟩ := rd_row (rd_of_owns (own_strm HO.out HS.out (by decide) HO2.out)) hlt
      have c20 : wr.cell? ⟨g, 20, none⟩ = some (.bool false) := by rw [HS2.out.cell 20]; simp [Str.cells, HB.out]
      have f20 := HS2.out.free 20
      have f5 := HS2.out.free 5
      clear hbl
      have HCell : Hid (∀ k, k < zs.length → wr.cell? ⟨b, off + k, none⟩ = some (.int .u8 (Pl.bt zs k))) := by
        have hR := rd_of_owns (own_strm HO.out HS.out (by decide) HO2.out)
        intro k hk
        obtain ⟨b', off', e1, e2, _⟩ := rd_row hR hk
        cases e1; exact e2
      have hq8 : q = 0 ∨ q = 1 ∨ q = 2 ∨ q = 3 ∨ q = 4 ∨ q = 5 ∨ q = 6 ∨ q = 7 := by omega
      clear hq
      generalize hcc : Pl.bt zs j = c at hcell
      have HC : Hid (Pl.bt zs j = c) := hcc
      clear hcc
      rcases hq8 with rfl | rfl | rfl | rfl | rfl | rfl | rfl | rfl
      · -- 0: behind a minus
        have c5 : wr.cell? ⟨g, 5, none⟩ = some (.int .u8 0) := HS2.out.cell 5
        by_cases h48 : c = 48
        · have hb48 : (c == 48) = true := by simp [h48]
          have HX : Hid (Pl.At ph zs i (j + 1) 1) := HT.out.step (q' := 1) hlt (by rw [HC.out, h48]; rfl)
          have HD : Hid (Pl.dig c = true) := by show _ = _; rw [h48]; rfl
          clear h48
          go_wp2_with fail
          refine (digit_yes g c 2 _ HD.out).mono ?_
          rintro e w1 ⟨rfl, hw1⟩
          replace hw1 := hw1.symm
          subst hw1
          go_wp2_with fail
          go_roundw
          case rel => exact ⟨j + 1, 1, by omega, by omega, by omega, by go_num, (HS2.out.number 2).number 1, (HO2.out.setCell 5 _).setCell 5 _, HX.out⟩
          case measure => simp [intOf]; omega
        · have hb48 : (c == 48) = false := by simp [h48]
          cases hd : Pl.dig c with
          | true =>
            have HX : Hid (Pl.At ph zs i (j + 1) 2) := HT.out.step (q' := 2) hlt (by rw [HC.out]; simp [Pl.step, h48, hd])
            have HD : Hid (Pl.dig c = true) := hd
            clear h48 hd
            go_wp2_with fail
            refine (digit_yes g c 2 _ HD.out).mono ?_
            rintro e w1 ⟨rfl, hw1⟩
            replace hw1 := hw1.symm
            subst hw1
            go_wp2_with fail
            go_roundw
            case rel => exact ⟨j + 1, 2, by omega, by omega, by omega, by go_num, HS2.out.number 2, HO2.out.setCell 5 _, HX.out⟩
            case measure => simp [intOf]; omega
          | false =>
            have HX : Hid (Pl.step 0 (Pl.bt zs j) = none) := by show _ = _; rw [HC.out]; simp [Pl.step, h48, hd]
            have HD : Hid (Pl.dig c = false) := hd
            clear h48 hd
            go_wp2_with fail
            refine (digit_no g _ c 2 _ HS2.out HD.out).mono ?_
            rintro e w1 ⟨rfl, hw1⟩
            subst hw1
            go_wp2_with fail
            go_ret
            exact NR_bad HT.out hlt HX.out rfl rfl ((HS2.out.broken true).number 2) ((HO2.out.setCell 20 _).setCell 5 _)
      · -- 1: behind a zero
        have c5 : wr.cell? ⟨g, 5, none⟩ = some (.int .u8 1) := HS2.out.cell 5
        by_cases h46 : c = 46
        · have hb46 : (c == 46) = true := by simp [h46]
          have HX : Hid (Pl.At ph zs i (j + 1) 3) := HT.out.step (q' := 3) hlt (by rw [HC.out, h46]; rfl)
          clear h46
          go_wp2_with fail
          go_roundw
          case rel => exact ⟨j + 1, 3, by omega, by omega, by omega, by go_num, HS2.out.number 3, HO2.out.setCell 5 _, HX.out⟩
          case measure => simp [intOf]; omega
        · have hb46 : (c == 46) = false := by simp [h46]
          cases he : Pl.ee c with
          | true =>
            have HX : Hid (Pl.At ph zs i (j + 1) 5) := HT.out.step (q' := 5) hlt (by rw [HC.out]; simp [Pl.step, h46, he])
            rcases ee_true he with h1 | ⟨h1, h2⟩
            all_goals
              clear h46 he
              go_wp2_with fail
              go_roundw
              case rel => exact ⟨j + 1, 5, by omega, by omega, by omega, by go_num, HS2.out.number 5, HO2.out.setCell 5 _, HX.out⟩
              case measure => simp [intOf]; omega
          | false =>
            have HX : Hid (Pl.step 1 (Pl.bt zs j) = none) := by show _ = _; rw [HC.out]; simp [Pl.step, h46, he]
            obtain ⟨h1, h2⟩ := ee_false he
            clear h46 he
            go_wp2_with fail
            refine (HV.out j 1 _ hij hlt HS2.out HO2.out).mono ?_
            rintro e w1 ⟨rfl, hve⟩
            go_wp2_with fail
            go_ret
            exact NR_ended HT.out hlt HX.out rfl rfl hve
      · -- 2: in the integer part
        have c5 : wr.cell? ⟨g, 5, none⟩ = some (.int .u8 2) := HS2.out.cell 5
        go_wp2_with fail
        go_loop [2, 7] (fun t u => ∃ k : Nat, j ≤ k ∧ k < zs.length ∧ t = .int .i64 k ∧ u = .int .u8 (Pl.bt zs k) ∧ Pl.At ph zs i k 2) (fun t _ => zs.length - (intOf t).toNat)
        case atStart => exact ⟨j, Nat.le_refl _, hlt, rfl, by rw [HC.out], HT.out⟩
        case round =>
          obtain ⟨k, hk1, hk2, rfl, rfl, hk⟩ := hrel
          have HK : Hid (Pl.At ph zs i k 2) := hk
          clear hk HT HC hcell
          generalize hcc : Pl.bt zs k = d
          have HC : Hid (Pl.bt zs k = d) := hcc
          clear hcc
          cases hd : Pl.dig d with
          | true =>
            obtain ⟨h1, h2⟩ := (Pl.dig_iff d).1 hd
            have HX : Hid (Pl.At ph zs i (k + 1) 2) := HK.out.step (q' := 2) hk2 (by rw [HC.out]; simp [Pl.step, hd])
            clear hd
            by_cases hkz : k + 1 = zs.length
            · have hbz : ((k : Int) + 1 == (zs.length : Int)) = true := by simp; omega
              have HZ : Hid (k + 1 = zs.length) := hkz
              clear hkz
              go_wp2_with fail
              go_ret
              exact NR_done HX.out HZ.out (by rw [← HZ.out]; rfl) HS2.out HO2.out
            · have hbz : ((k : Int) + 1 == (zs.length : Int)) = false := by simp; omega
              have hcell := HCell.out (k + 1) (by omega)
              have hkz' : k + 1 < zs.length := by omega
              clear hkz
              go_wp2_with fail
              go_round
              case rel => exact ⟨k + 1, by omega, by omega, by go_num, rfl, HX.out⟩
              case measure => simp [intOf]; omega
          | false =>
            have hnd : ¬ (48 ≤ d ∧ d ≤ 57) := by intro hh; rw [(Pl.dig_iff d).2 hh] at hd; cases hd
            by_cases h46 : d = 46
            · have hb46 : (d == 46) = true := by simp [h46]
              have hlow : d < 48 := by omega
              have HX : Hid (Pl.At ph zs i (k + 1) 3) := HK.out.step (q' := 3) hk2 (by rw [HC.out, h46]; rfl)
              clear h46 hnd hd
              go_wp2_with fail
              go_roundw
              case rel => exact ⟨k + 1, 3, by omega, by omega, by omega, by go_num, HS2.out.number 3, HO2.out.setCell 5 _, HX.out⟩
              case measure => simp [intOf]; omega
            · have hb46 : (d == 46) = false := by simp [h46]
              cases he : Pl.ee d with
              | true =>
                have hhi : 57 < d := by simp [Pl.ee] at he; omega
                have HX : Hid (Pl.At ph zs i (k + 1) 5) := HK.out.step (q' := 5) hk2 (by rw [HC.out]; simp [Pl.step, h46, he, hd])
                rcases ee_true he with h1 | ⟨h1, h2⟩
                all_goals
                  clear h46 he hnd hd
                  go_wp2_with fail
                  go_roundw
                  case rel => exact ⟨k + 1, 5, by omega, by omega, by omega, by go_num, HS2.out.number 5, HO2.out.setCell 5 _, HX.out⟩
                  case measure => simp [intOf]; omega
              | false =>
                have HX : Hid (Pl.step 2 (Pl.bt zs k) = none) := by show _ = _; rw [HC.out]; simp [Pl.step, h46, he, hd]
                obtain ⟨h1, h2⟩ := ee_false he
                rcases (show d < 48 ∨ 57 < d by omega) with h3 | h3
                all_goals
                  clear h46 he hnd hd
                  go_wp2_with fail
                  refine (HV.out k 2 _ (by omega) (by omega) HS2.out HO2.out).mono ?_
                  rintro e w1 ⟨rfl, hve⟩
                  go_wp2_with fail
                  go_ret
                  exact NR_ended HK.out hk2 HX.out rfl rfl hve
      · -- 3: behind the point
        have c5 : wr.cell? ⟨g, 5, none⟩ = some (.int .u8 3) := HS2.out.cell 5
        cases hd : Pl.dig c with
        | true =>
          have HX : Hid (Pl.At ph zs i (j + 1) 4) := HT.out.step (q' := 4) hlt (by rw [HC.out]; simp [Pl.step, hd])
          have HD : Hid (Pl.dig c = true) := hd
          clear hd
          go_wp2_with fail
          refine (digit_yes g c 4 _ HD.out).mono ?_
          rintro e w1 ⟨rfl, hw1⟩
          replace hw1 := hw1.symm
          subst hw1
          go_wp2_with fail
          go_roundw
          case rel => exact ⟨j + 1, 4, by omega, by omega, by omega, by go_num, HS2.out.number 4, HO2.out.setCell 5 _, HX.out⟩
          case measure => simp [intOf]; omega
        | false =>
          have HX : Hid (Pl.step 3 (Pl.bt zs j) = none) := by show _ = _; rw [HC.out]; simp [Pl.step, hd]
          have HD : Hid (Pl.dig c = false) := hd
          clear hd
          go_wp2_with fail
          refine (digit_no g _ c 4 _ HS2.out HD.out).mono ?_
          rintro e w1 ⟨rfl, hw1⟩
          subst hw1
          go_wp2_with fail
          go_ret
          exact NR_bad HT.out hlt HX.out rfl rfl ((HS2.out.broken true).number 4) ((HO2.out.setCell 20 _).setCell 5 _)
      · -- 4: in the fraction
        have c5 : wr.cell? ⟨g, 5, none⟩ = some (.int .u8 4) := HS2.out.cell 5
        go_wp2_with fail
        go_loop [2, 7] (fun t u => ∃ k : Nat, j ≤ k ∧ k < zs.length ∧ t = .int .i64 k ∧ u = .int .u8 (Pl.bt zs k) ∧ Pl.At ph zs i k 4) (fun t _ => zs.length - (intOf t).toNat)
        case atStart => exact ⟨j, Nat.le_refl _, hlt, rfl, by rw [HC.out], HT.out⟩
        case round =>
          obtain ⟨k, hk1, hk2, rfl, rfl, hk⟩ := hrel
          have HK : Hid (Pl.At ph zs i k 4) := hk
          clear hk HT HC hcell
          generalize hcc : Pl.bt zs k = d
          have HC : Hid (Pl.bt zs k = d) := hcc
          clear hcc
          cases hd : Pl.dig d with
          | true =>
            obtain ⟨h1, h2⟩ := (Pl.dig_iff d).1 hd
            have HX : Hid (Pl.At ph zs i (k + 1) 4) := HK.out.step (q' := 4) hk2 (by rw [HC.out]; simp [Pl.step, hd])
            clear hd
            by_cases hkz : k + 1 = zs.length
            · have hbz : ((k : Int) + 1 == (zs.length : Int)) = true := by simp; omega
              have HZ : Hid (k + 1 = zs.length) := hkz
              clear hkz
              go_wp2_with fail
              go_ret
              exact NR_done HX.out HZ.out (by rw [← HZ.out]; rfl) HS2.out HO2.out
            · have hbz : ((k : Int) + 1 == (zs.length : Int)) = false := by simp; omega
              have hcell := HCell.out (k + 1) (by omega)
              have hkz' : k + 1 < zs.length := by omega
              clear hkz
              go_wp2_with fail
              go_round
              case rel => exact ⟨k + 1, by omega, by omega, by go_num, rfl, HX.out⟩
              case measure => simp [intOf]; omega
          | false =>
            have hnd : ¬ (48 ≤ d ∧ d ≤ 57) := by intro hh; rw [(Pl.dig_iff d).2 hh] at hd; cases hd
            by_cases h46 : d = 46
            · have hb46 : (d == 46) = true := by simp [h46]
              have hlow : d < 48 := by omega
              have HX : Hid (Pl.step 4 (Pl.bt zs k) = none) := by show _ = _; rw [HC.out, h46]; rfl
              have hb101 : (d == 101) = false := by simp [h46]
              have hb69 : (d == 69) = false := by simp [h46]
              clear h46 hnd hd
              go_wp2_with fail
              refine (HV.out k 4 _ (by omega) (by omega) HS2.out HO2.out).mono ?_
              rintro e w1 ⟨rfl, hve⟩
              go_wp2_with fail
              go_ret
              exact NR_ended HK.out hk2 HX.out rfl rfl hve
            · have hb46 : (d == 46) = false := by simp [h46]
              cases he : Pl.ee d with
              | true =>
                have hhi : 57 < d := by simp [Pl.ee] at he; omega
                have HX : Hid (Pl.At ph zs i (k + 1) 5) := HK.out.step (q' := 5) hk2 (by rw [HC.out]; simp [Pl.step, he, hd])
                rcases ee_true he with h1 | ⟨h1, h2⟩
                all_goals
                  clear h46 he hnd hd
                  go_wp2_with fail
                  go_roundw
                  case rel => exact ⟨k + 1, 5, by omega, by omega, by omega, by go_num, HS2.out.number 5, HO2.out.setCell 5 _, HX.out⟩
                  case measure => simp [intOf]; omega
              | false =>
                have HX : Hid (Pl.step 4 (Pl.bt zs k) = none) := by show _ = _; rw [HC.out]; simp [Pl.step, he, hd]
                obtain ⟨h1, h2⟩ := ee_false he
                rcases (show d < 48 ∨ 57 < d by omega) with h3 | h3
                all_goals
                  clear h46 he hnd hd
                  go_wp2_with fail
                  refine (HV.out k 4 _ (by omega) (by omega) HS2.out HO2.out).mono ?_
                  rintro e w1 ⟨rfl, hve⟩
                  go_wp2_with fail
                  go_ret
                  exact NR_ended HK.out hk2 HX.out rfl rfl hve
      · -- 5: behind an e
        have c5 : wr.cell? ⟨g, 5, none⟩ = some (.int .u8 5) := HS2.out.cell 5
        cases hg : Pl.sg c with
        | true =>
          have HX : Hid (Pl.At ph zs i (j + 1) 6) := HT.out.step (q' := 6) hlt (by rw [HC.out]; simp [Pl.step, hg])
          rcases sg_true hg with h1 | ⟨h1, h2⟩
          all_goals
            clear hg
            go_wp2_with fail
            go_roundw
            case rel => exact ⟨j + 1, 6, by omega, by omega, by omega, by go_num, HS2.out.number 6, HO2.out.setCell 5 _, HX.out⟩
            case measure => simp [intOf]; omega
        | false =>
          obtain ⟨h1, h2⟩ := sg_false hg
          cases hd : Pl.dig c with
          | true =>
            have HX : Hid (Pl.At ph zs i (j + 1) 7) := HT.out.step (q' := 7) hlt (by rw [HC.out]; simp [Pl.step, hg, hd])
            have HD : Hid (Pl.dig c = true) := hd
            clear hg hd
            go_wp2_with fail
            refine (digit_yes g c 7 _ HD.out).mono ?_
            rintro e w1 ⟨rfl, hw1⟩
            replace hw1 := hw1.symm
            subst hw1
            go_wp2_with fail
            go_roundw
            case rel => exact ⟨j + 1, 7, by omega, by omega, by omega, by go_num, HS2.out.number 7, HO2.out.setCell 5 _, HX.out⟩
            case measure => simp [intOf]; omega
          | false =>
            have HX : Hid (Pl.step 5 (Pl.bt zs j) = none) := by show _ = _; rw [HC.out]; simp [Pl.step, hg, hd]
            have HD : Hid (Pl.dig c = false) := hd
            clear hg hd
            go_wp2_with fail
            refine (digit_no g _ c 7 _ HS2.out HD.out).mono ?_
            rintro e w1 ⟨rfl, hw1⟩
            subst hw1
            go_wp2_with fail
            go_ret
            exact NR_bad HT.out hlt HX.out rfl rfl ((HS2.out.broken true).number 7) ((HO2.out.setCell 20 _).setCell 5 _)
      · -- 6: behind the sign
        have c5 : wr.cell? ⟨g, 5, none⟩ = some (.int .u8 6) := HS2.out.cell 5
        cases hd : Pl.dig c with
        | true =>
          have HX : Hid (Pl.At ph zs i (j + 1) 7) := HT.out.step (q' := 7) hlt (by rw [HC.out]; simp [Pl.step, hd])
          have HD : Hid (Pl.dig c = true) := hd
          clear hd
          go_wp2_with fail
          refine (digit_yes g c 7 _ HD.out).mono ?_
          rintro e w1 ⟨rfl, hw1⟩
          replace hw1 := hw1.symm
          subst hw1
          go_wp2_with fail
          go_roundw
          case rel => exact ⟨j + 1, 7, by omega, by omega, by omega, by go_num, HS2.out.number 7, HO2.out.setCell 5 _, HX.out⟩
          case measure => simp [intOf]; omega
        | false =>
          have HX : Hid (Pl.step 6 (Pl.bt zs j) = none) := by show _ = _; rw [HC.out]; simp [Pl.step, hd]
          have HD : Hid (Pl.dig c = false) := hd
          clear hd
          go_wp2_with fail
          refine (digit_no g _ c 7 _ HS2.out HD.out).mono ?_
          rintro e w1 ⟨rfl, hw1⟩
          subst hw1
          go_wp2_with fail
          go_ret
          exact NR_bad HT.out hlt HX.out rfl rfl ((HS2.out.broken true).number 7) ((HO2.out.setCell 20 _).setCell 5 _)
      · -- 7: in the exponent
        have c5 : wr.cell? ⟨g, 5, none⟩ = some (.int .u8 7) := HS2.out.cell 5
        go_wp2_with fail
        go_loop [2, 7] (fun t u => ∃ k : Nat, j ≤ k ∧ k < zs.length ∧ t = .int .i64 k ∧ u = .int .u8 (Pl.bt zs k) ∧ Pl.At ph zs i k 7) (fun t _ => zs.length - (intOf t).toNat)
        case atStart => exact ⟨j, Nat.le_refl _, hlt, rfl, by rw [HC.out], HT.out⟩
        case round =>
          obtain ⟨k, hk1, hk2, rfl, rfl, hk⟩ := hrel
          have HK : Hid (Pl.At ph zs i k 7) := hk
          clear hk HT HC hcell
          generalize hcc : Pl.bt zs k = d
          have HC : Hid (Pl.bt zs k = d) := hcc
          clear hcc
          cases hd : Pl.dig d with
          | true =>
            obtain ⟨h1, h2⟩ := (Pl.dig_iff d).1 hd
            have HX : Hid (Pl.At ph zs i (k + 1) 7) := HK.out.step (q' := 7) hk2 (by rw [HC.out]; simp [Pl.step, hd])
            clear hd
            by_cases hkz : k + 1 = zs.length
            · have hbz : ((k : Int) + 1 == (zs.length : Int)) = true := by simp; omega
              have HZ : Hid (k + 1 = zs.length) := hkz
              clear hkz
              go_wp2_with fail
              go_ret
              exact NR_done HX.out HZ.out (by rw [← HZ.out]; rfl) HS2.out HO2.out
            · have hbz : ((k : Int) + 1 == (zs.length : Int)) = false := by simp; omega
              have hcell := HCell.out (k + 1) (by omega)
              have hkz' : k + 1 < zs.length := by omega
              clear hkz
              go_wp2_with fail
              go_round
              case rel => exact ⟨k + 1, by omega, by omega, by go_num, rfl, HX.out⟩
              case measure => simp [intOf]; omega
          | false =>
            have hnd : ¬ (48 ≤ d ∧ d ≤ 57) := by intro hh; rw [(Pl.dig_iff d).2 hh] at hd; cases hd
            by_cases h46 : d = 46
            · have hb46 : (d == 46) = true := by simp [h46]
              have hlow : d < 48 := by omega
              have HX : Hid (Pl.step 7 (Pl.bt zs k) = none) := by show _ = _; rw [HC.out, h46]; rfl
              have hb101 : (d == 101) = false := by simp [h46]
              have hb69 : (d == 69) = false := by simp [h46]
              clear h46 hnd hd
              go_wp2_with fail
              refine (HV.out k 7 _ (by omega) (by omega) HS2.out HO2.out).mono ?_
              rintro e w1 ⟨rfl, hve⟩
              go_wp2_with fail
              go_ret
              exact NR_ended HK.out hk2 HX.out rfl rfl hve
            · have hb46 : (d == 46) = false := by simp [h46]
              cases he : Pl.ee d with
              | true =>
                have hhi : 57 < d := by simp [Pl.ee] at he; omega
                have HX : Hid (Pl.step 7 (Pl.bt zs k) = none) := by show _ = _; rw [HC.out]; simp [Pl.step, hd]
                rcases ee_true he with h1 | ⟨h1, h2⟩
                all_goals
                  clear h46 he hnd hd
                  go_wp2_with fail
                  refine (HV.out k 7 _ (by omega) (by omega) HS2.out HO2.out).mono ?_
                  rintro e w1 ⟨rfl, hve⟩
                  go_wp2_with fail
                  go_ret
                  exact NR_ended HK.out hk2 HX.out rfl rfl hve
              | false =>
                have HX : Hid (Pl.step 7 (Pl.bt zs k) = none) := by show _ = _; rw [HC.out]; simp [Pl.step, hd]
                obtain ⟨h1, h2⟩ := ee_false he
                rcases (show d < 48 ∨ 57 < d by omega) with h3 | h3
                all_goals
                  clear h46 he hnd hd
                  go_wp2_with fail
                  refine (HV.out k 7 _ (by omega) (by omega) HS2.out HO2.out).mono ?_
                  rintro e w1 ⟨rfl, hve⟩
                  go_wp2_with fail
                  go_ret
                  exact NR_ended HK.out hk2 HX.out rfl rfl hve
    · have hjz : j = zs.length := by omega
      have HJ : Hid (j = zs.length) := hjz
      clear hjz
      go_wp2_with fail
      go_ret
      exact NR_done HT.out HJ.out (by rw [← HJ.out]; rfl) HS2.out HO2.out
end Go.Proofs.Qxb6602575a
