import Derived.Test.Qxb6602575aW5
import Derived.Test.Qxb6602575aPlain4
namespace Go.Proofs.Qxb6602575a
open Go.RowKit

set_option maxHeartbeats 1000000 in
set_option maxRecDepth 100000 in
theorem longest_any (ao : Option Addr) (len cap : Nat) (zs : List Int) (w : World) (h : Rd w ao zs) (hl : zs.length = len) (hz : len ≤ 1099511627776) :
    Calls Try.prog 12 #[.slice ao len cap] w fun e w' => e = .returned (.int .i64 (Pl.longest zs : Nat)) ∧ w' = w := by
  have hle := Pl.longest_le zs
  have HV : Hid (∀ k, k ≤ zs.length → Pl.viable zs k = decide (k ≤ Pl.longest zs)) := fun k hk => Pl.viable_iff zs k hk
  generalize Pl.longest zs = n at hle HV ⊢
  go_enter Try.func12, Try.ntmps12
  go_wp2_with fail
  go_loop [3, 4] (fun s t => ∃ a b : Nat, a ≤ n ∧ n < b ∧ b ≤ len + 1 ∧ s = .int .i64 a ∧ t = .int .i64 b) (fun s t => (intOf t).toNat - (intOf s).toNat)
  case atStart => exact ⟨0, len + 1, Nat.zero_le _, by omega, Nat.le_refl _, rfl, by go_num⟩
  case round =>
    obtain ⟨a, b, h1, h2, h3, rfl, rfl⟩ := hrel
    by_cases hlt : a + 1 < b
    · obtain ⟨m, hm⟩ : ∃ m, m = a + (b - a) / 2 := ⟨_, rfl⟩
      have hm1 : a < m := by omega
      have hm2 : m < b := by omega
      have HM : Hid ((a : Int) + ((b : Int) - (a : Int)) / 2 = (m : Int)) := by show _ = _; omega
      clear hm
      have hlt' : (1 : Int) < (b : Int) - (a : Int) := by omega
      go_wp2_with fail
      rw [HM.out]
      refine (isNumber_any _ _ _ zs m false _ h hl hz (by omega) (by omega)).mono ?_
      rintro _ w1 ⟨rfl, hw1⟩
      replace hw1 := hw1.symm
      subst hw1
      rw [Int.toNat_natCast]
      have HVm : Hid (_) := HV.out m (by omega)
      cases hA : Pl.isNum zs m false
      · have HA : Hid (Pl.isNum zs m false = false) := hA
        clear hA
        go_wp2_with fail
        refine (isNumber_any _ _ _ zs m true _ h hl hz (by omega) (by omega)).mono ?_
        rintro _ w1 ⟨rfl, hw1⟩
        replace hw1 := hw1.symm
        subst hw1
        rw [Int.toNat_natCast]
        cases hB : Pl.isNum zs m true
        · have hmn : n < m := by
            have e := HVm.out; unfold Pl.viable at e; rw [HA.out, hB] at e
            have := of_decide_eq_false e.symm; omega
          clear hB
          go_wp2_with fail
          go_round
          case rel => exact ⟨a, m, h1, hmn, by omega, rfl, rfl⟩
          case measure => simp [intOf]; omega
        · have hmn : m ≤ n := by
            have e := HVm.out; unfold Pl.viable at e; rw [HA.out, hB] at e
            exact of_decide_eq_true e.symm
          clear hB
          go_wp2_with fail
          go_round
          case rel => exact ⟨m, b, hmn, h2, h3, rfl, rfl⟩
          case measure => simp [intOf]; omega
      · have hmn : m ≤ n := by
          have e := HVm.out; unfold Pl.viable at e; rw [hA] at e
          exact of_decide_eq_true e.symm
        clear hA
        go_wp2_with fail
        go_round
        case rel => exact ⟨m, b, hmn, h2, h3, rfl, rfl⟩
        case measure => simp [intOf]; omega
    · have hlt' : ¬ (1 : Int) < (b : Int) - (a : Int) := by omega
      go_wp2_with fail
      go_ret
      exact ⟨ret_int (by omega), rfl⟩
end Go.Proofs.Qxb6602575a
