import Derived.Test.Qxb6602575aW13
import Derived.Test.Qxb6602575aPlain7
import Derived.Test.Qxb6602575aW6
namespace Go.Proofs.Qxb6602575a
open Go.RowKit

set_option maxHeartbeats 2000000 in
set_option maxRecDepth 100000 in
theorem phaseOf_row (b off cap : Nat) (zs : List Int) (w : World) (hz : zs.length ≤ 1099511627776) (hne : 1 ≤ zs.length)
    (hc : ∀ i, i < zs.length → w.cell? ⟨b, off + i, none⟩ = some (.int .u8 (Pl.bt zs i))) :
    Calls Try.prog 39 #[.slice (some ⟨b, off, none⟩) zs.length cap] w fun e w' => e = .returned (.int .u8 (Pl.phOf zs : Nat)) ∧ w' = w := by
  have HCell : Hid (∀ i, i < zs.length → w.cell? ⟨b, off + i, none⟩ = some (.int .u8 (Pl.bt zs i))) := hc
  clear hc
  have HE : Hid (∀ k, k < zs.length → (∀ j, j < k → Pl.ee (Pl.bt zs j) = false) → Pl.ee (Pl.bt zs k) = true → Pl.phOf zs = Pl.phE zs k) := Pl.phOf_e zs
  have HNE : Hid ((∀ j, j < zs.length → Pl.ee (Pl.bt zs j) = false) → Pl.phOf zs = Pl.phF zs) := Pl.phOf_noE zs
  generalize Pl.phOf zs = r at HE HNE ⊢
  go_enter Try.func39, Try.ntmps39
  go_upto_block 0 with fail
  go_cut [4] (fun _ wx => (∀ j, j < zs.length → Pl.ee (Pl.bt zs j) = false) ∧ w = wx)
  case first =>
    go_wp2_with fail
    go_loop [4] (fun t => ∃ k : Nat, k ≤ zs.length ∧ t = .int .i64 k ∧ ∀ j, j < k → Pl.ee (Pl.bt zs j) = false) (fun t => zs.length - (intOf t).toNat)
    case atStart => exact ⟨0, Nat.zero_le _, rfl, fun j h => by omega⟩
    case round =>
      obtain ⟨k, hk, rfl, hall⟩ := hrel
      have HA : Hid (∀ j, j < k → Pl.ee (Pl.bt zs j) = false) := hall
      clear hall
      by_cases hlt : k < zs.length
      · have hcell := HCell.out k hlt
        cases he : Pl.ee (Pl.bt zs k) with
        | true =>
          have HR : Hid (r = Pl.phE zs k) := HE.out k hlt HA.out he
          rcases ee_true he with h1 | ⟨h1, h2⟩
          all_goals
            clear he
            by_cases h5 : k + 1 = zs.length
            · have hb5 : ((zs.length : Int) - (k : Int) - 1 == 0) = true := by rw [beq_iff_eq]; omega
              have HR5 : Hid (r = 5) := by show r = 5; rw [HR.out]; simp [Pl.phE, h5]
              clear h5
              go_wp2_with fail
              go_ret
              exact ⟨by rw [HR5.out]; rfl, rfl⟩
            · have hb5 : ((zs.length : Int) - (k : Int) - 1 == 0) = false := by rw [beq_eq_false_iff_ne]; omega
              by_cases h6 : k + 2 = zs.length
              · have hb6 : ((zs.length : Int) - (k : Int) - 1 == 1) = true := by rw [beq_iff_eq]; omega
                have hcell2 := HCell.out (k + 1) (by omega)
                have hk2 : k + 1 < zs.length := by omega
                cases hs : Pl.sg (Pl.bt zs (k + 1)) with
                | true =>
                  have HR6 : Hid (r = 6) := by show r = 6; rw [HR.out]; simp [Pl.phE, h6, hs]; omega
                  rcases sg_true hs with h3 | ⟨h3, h4⟩
                  all_goals
                    clear h5 h6 hs
                    go_wp2_with fail
                    go_ret
                    exact ⟨by rw [HR6.out]; rfl, rfl⟩
                | false =>
                  have HR7 : Hid (r = 7) := by show r = 7; rw [HR.out]; simp [Pl.phE, hs]; omega
                  obtain ⟨h3, h4⟩ := sg_false hs
                  clear h5 h6 hs
                  go_wp2_with fail
                  go_ret
                  exact ⟨by rw [HR7.out]; rfl, rfl⟩
              · have hb6 : ((zs.length : Int) - (k : Int) - 1 == 1) = false := by rw [beq_eq_false_iff_ne]; omega
                have HR7 : Hid (r = 7) := by show r = 7; rw [HR.out]; simp [Pl.phE, h5, h6]
                clear h5 h6
                go_wp2_with fail
                go_ret
                exact ⟨by rw [HR7.out]; rfl, rfl⟩
        | false =>
          have HD : Hid (Pl.ee (Pl.bt zs k) = false) := he
          obtain ⟨h1, h2⟩ := ee_false he
          clear he
          go_wp2_with fail
          go_round
          case rel =>
            refine ⟨k + 1, by omega, by go_num, fun j hj => ?_⟩
            by_cases hjk : j = k
            · subst hjk; exact HD.out
            · exact HA.out j (by omega)
          case measure => simp [intOf]; omega
      · have hkk : k = zs.length := by omega
        subst hkk
        go_wp2_with fail
        go_meet
        exact ⟨HA.out, rfl⟩
  case rest =>
  obtain ⟨hE, rfl⟩ := hcut
  have HF : Hid (r = Pl.phF zs) := HNE.out hE
  clear hE HE HNE
  have HP : Hid (∀ k, k < zs.length → (∀ j, j < k → Pl.pt (Pl.bt zs j) = false) → Pl.pt (Pl.bt zs k) = true → Pl.phF zs = if k + 1 = zs.length then 3 else 4) := Pl.phF_p zs
  have HNP : Hid ((∀ j, j < zs.length → Pl.pt (Pl.bt zs j) = false) → Pl.phF zs = Pl.phI zs) := Pl.phF_noP zs
  go_upto_block 2 with fail
  go_cut [7] (fun _ wx => (∀ j, j < zs.length → Pl.pt (Pl.bt zs j) = false) ∧ w = wx)
  case first =>
    go_wp2_with fail
    go_loop [7] (fun t => ∃ k : Nat, k ≤ zs.length ∧ t = .int .i64 k ∧ ∀ j, j < k → Pl.pt (Pl.bt zs j) = false) (fun t => zs.length - (intOf t).toNat)
    case atStart => exact ⟨0, Nat.zero_le _, rfl, fun j h => by omega⟩
    case round =>
      obtain ⟨k, hk, rfl, hall⟩ := hrel
      have HA : Hid (∀ j, j < k → Pl.pt (Pl.bt zs j) = false) := hall
      clear hall
      by_cases hlt : k < zs.length
      · have hcell := HCell.out k hlt
        cases he : Pl.pt (Pl.bt zs k) with
        | true =>
          have HR : Hid (Pl.phF zs = if k + 1 = zs.length then 3 else 4) := HP.out k hlt HA.out he
          have h1 : (Pl.bt zs k == 46) = true := he
          clear he
          by_cases h5 : k + 1 = zs.length
          · have hb5 : ((k : Int) == (zs.length : Int) - 1) = true := by rw [beq_iff_eq]; omega
            have HR5 : Hid (r = 3) := by show r = 3; rw [HF.out, HR.out, if_pos h5]
            clear h5
            go_wp2_with fail
            go_ret
            exact ⟨by rw [HR5.out]; rfl, rfl⟩
          · have hb5 : ((k : Int) == (zs.length : Int) - 1) = false := by rw [beq_eq_false_iff_ne]; omega
            have HR5 : Hid (r = 4) := by show r = 4; rw [HF.out, HR.out, if_neg h5]
            clear h5
            go_wp2_with fail
            go_ret
            exact ⟨by rw [HR5.out]; rfl, rfl⟩
        | false =>
          have HD : Hid (Pl.pt (Pl.bt zs k) = false) := he
          have h1 : (Pl.bt zs k == 46) = false := he
          clear he
          go_wp2_with fail
          go_round
          case rel =>
            refine ⟨k + 1, by omega, by go_num, fun j hj => ?_⟩
            by_cases hjk : j = k
            · subst hjk; exact HD.out
            · exact HA.out j (by omega)
          case measure => simp [intOf]; omega
      · have hkk : k = zs.length := by omega
        subst hkk
        go_wp2_with fail
        go_meet
        exact ⟨HA.out, rfl⟩
  case rest =>
  obtain ⟨hE, rfl⟩ := hcut
  have HI : Hid (r = Pl.phI zs) := by show r = _; rw [HF.out]; exact HNP.out hE
  clear hE HP HNP HF
  have hcell0 : w.cell? ⟨b, off, none⟩ = some (.int .u8 (Pl.bt zs 0)) := by have := HCell.out 0 (by omega); simpa using this
  have hne' : (0 : Int) < (zs.length : Int) := by omega
  go_upto_region 21 with fail
  go_cut [71] (fun t wx => t = .bool (Pl.isB zs 0 45) ∧ w = wx)
  case first =>
    go_wp2_with fail
    go_meet
    exact ⟨by rw [Pl.isB_lt _ (by omega)], rfl⟩
  case rest =>
  obtain ⟨rfl, rfl⟩ := hcut
  go_upto_if 71 with fail
  go_cut [8] (fun t wx => t = .int .i64 (Pl.lo1 zs : Nat) ∧ w = wx)
  case first =>
    cases hb : Pl.isB zs 0 45
    · have HB : Hid (Pl.isB zs 0 45 = false) := hb
      go_wp2_with fail
      go_meet
      exact ⟨by simp [Pl.lo1, HB.out], rfl⟩
    · have HB : Hid (Pl.isB zs 0 45 = true) := hb
      go_wp2_with fail
      go_meet
      exact ⟨by simp [Pl.lo1, HB.out], rfl⟩
  case rest =>
  obtain ⟨rfl, rfl⟩ := hcut
  have hlo : Pl.lo1 zs ≤ 1 := by unfold Pl.lo1; split <;> omega
  have HI2 : Hid (r = if zs.length = Pl.lo1 zs then 0 else if zs.length = Pl.lo1 zs + 1 ∧ Pl.bt zs (Pl.lo1 zs) = 48 then 1 else 2) := HI
  clear HI hcell0
  generalize Pl.lo1 zs = lo at hlo HI2 ⊢
  by_cases h0 : zs.length = lo
  · have hb0 : ((zs.length : Int) == (lo : Int)) = true := by rw [beq_iff_eq]; omega
    have HR : Hid (r = 0) := by show r = 0; rw [HI2.out, if_pos h0]
    clear h0
    go_wp2_with fail
    go_ret
    exact ⟨by rw [HR.out]; rfl, rfl⟩
  · have hb0 : ((zs.length : Int) == (lo : Int)) = false := by rw [beq_eq_false_iff_ne]; omega
    have hcell := HCell.out lo (by omega)
    have hlo2 : lo < zs.length := by omega
    by_cases h1 : zs.length = lo + 1
    · have hb1 : ((zs.length : Int) - (lo : Int) == 1) = true := by rw [beq_iff_eq]; omega
      by_cases h48 : Pl.bt zs lo = 48
      · have hb48 : (Pl.bt zs lo == 48) = true := by rw [beq_iff_eq]; exact h48
        have HR : Hid (r = 1) := by show r = 1; rw [HI2.out, if_neg h0, if_pos ⟨h1, h48⟩]
        clear h0 h1 h48
        go_wp2_with fail
        go_ret
        exact ⟨by rw [HR.out]; rfl, rfl⟩
      · have hb48 : (Pl.bt zs lo == 48) = false := by rw [beq_eq_false_iff_ne]; exact h48
        have HR : Hid (r = 2) := by show r = 2; rw [HI2.out, if_neg h0, if_neg (fun h => h48 h.2)]
        clear h0 h1 h48
        go_wp2_with fail
        go_ret
        exact ⟨by rw [HR.out]; rfl, rfl⟩
    · have hb1 : ((zs.length : Int) - (lo : Int) == 1) = false := by rw [beq_eq_false_iff_ne]; omega
      have HR : Hid (r = 2) := by show r = 2; rw [HI2.out, if_neg h0, if_neg (fun h => h1 h.1)]
      clear h0 h1
      go_wp2_with fail
      go_ret
      exact ⟨by rw [HR.out]; rfl, rfl⟩

theorem phaseOf_any (ao : Option Addr) (len cap : Nat) (zs : List Int) (w : World) (h : Rd w ao zs) (hl : zs.length = len) (hz : len ≤ 1099511627776) (hne : 1 ≤ len) :
    Calls Try.prog 39 #[.slice ao len cap] w fun e w' => e = .returned (.int .u8 (Pl.phOf zs : Nat)) ∧ w' = w := by
  subst hl
  rcases h with ⟨_, rfl | ⟨b, off, rfl, hc⟩⟩
  · simp at hne
  · exact phaseOf_row b off cap zs w hz hne hc
end Go.Proofs.Qxb6602575a
