import Derived.Test.Qxb6602575aW1
import Derived.Deep.DeepCutAuto
import Derived.Deep.CutBlock
namespace Go.Proofs.Qxb6602575a
open Go.RowKit

set_option maxHeartbeats 2000000 in
set_option maxRecDepth 100000 in
theorem numberEnd_row (b off cap i : Nat) (zs : List Int) (w : World) (hi : i ≤ maxLen) (hz : zs.length ≤ maxLen)
    (hc : ∀ i, i < zs.length → w.cell? ⟨b, off + i, none⟩ = some (.int .u8 (Pl.bt zs i))) :
    Calls Try.prog 37 #[.slice (some ⟨b, off, none⟩) zs.length cap, .int .i64 i] w fun e w' => e = .returned (.int .i64 (Pl.numEnd zs i)) ∧ w' = w := by
  have hrd : Rd w (some ⟨b, off, none⟩) zs := ⟨hz, .inr ⟨b, off, rfl, hc⟩⟩
  unfold maxLen at hi hz
  obtain ⟨r, hr⟩ : ∃ r, r = Pl.numEnd zs i := ⟨_, rfl⟩
  have HR : Hid (r = Pl.numEnd zs i) := hr
  rw [← hr]; clear hr
  go_enter Try.func37, Try.ntmps37
  go_upto_region 1 with fail
  go_cut [15] (fun s wx => s = .bool (Pl.isB zs i 45) ∧ w = wx)
  case first =>
    by_cases hlt : i < zs.length
    · have hcell := hc i hlt
      go_wp2_with fail
      go_meet
      exact ⟨by rw [Pl.isB_lt _ hlt], rfl⟩
    · go_wp2_with fail
      go_meet
      exact ⟨by rw [Pl.isB_ge _ (by omega)], rfl⟩
  case rest =>
  obtain ⟨rfl, rfl⟩ := hcut
  go_upto_if 15 with fail
  go_cut [1] (fun s wx => s = .int .i64 (Pl.st1 zs i : Int) ∧ w = wx)
  case first =>
    cases hb : Pl.isB zs i 45
    · go_wp2_with fail
      go_meet
      exact ⟨by simp [Pl.st1, hb], rfl⟩
    · have := Pl.isB_true hb
      go_wp2_with fail
      go_meet
      exact ⟨by simp [Pl.st1, hb], rfl⟩
  case rest =>
  obtain ⟨rfl, rfl⟩ := hcut
  have hst := Pl.st1_bd zs i
  have HR2 : Hid (r = Pl.st4 zs (Pl.st3 zs (Pl.st2 zs (Pl.st1 zs i)))) := HR
  clear HR
  generalize Pl.st1 zs i = i1 at hst HR2 ⊢
  have h1 : i1 ≤ 9223372036854775807 := by omega
  clear hst
  go_upto_region 3 with fail
  go_cut [28] (fun s wx => s = .bool (Pl.isB zs i1 48) ∧ w = wx)
  case first =>
    by_cases hlt : i1 < zs.length
    · have hcell := hc i1 hlt
      go_wp2_with fail
      go_meet
      exact ⟨by rw [Pl.isB_lt _ hlt], rfl⟩
    · go_wp2_with fail
      go_meet
      exact ⟨by rw [Pl.isB_ge _ (by omega)], rfl⟩
  case rest =>
  obtain ⟨rfl, rfl⟩ := hcut
  go_upto_if 28 with fail
  go_cut [1] (fun s wx => s = .int .i64 (Pl.st2 zs i1) ∧ w = wx)
  case first =>
    cases hb : Pl.isB zs i1 48
    · have HB : Hid (Pl.isB zs i1 48 = false) := hb
      go_wp2_with (go_at_call 44; refine (digitsEnd_any _ _ _ zs _ _ hrd rfl (by omega) (by omega)).mono ?_; rintro e w' ⟨rfl, rfl⟩)
      go_meet
      exact ⟨by simp [Pl.st2, HB.out], rfl⟩
    · have := Pl.isB_true hb
      have HB : Hid (Pl.isB zs i1 48 = true) := hb
      go_wp2_with fail
      go_meet
      exact ⟨by simp [Pl.st2, HB.out], rfl⟩
  case rest =>
  obtain ⟨rfl, rfl⟩ := hcut
  have hst := Pl.st2_bd zs i1
  generalize Pl.st2 zs i1 = i2 at hst HR2 ⊢
  have h2 : -1 ≤ i2 ∧ i2 ≤ zs.length := by omega
  have h2' : i2 = -1 ∨ (0 ≤ i2 ∧ i2 ≤ zs.length) := by omega
  clear hst h1
  go_upto_region 6 with fail
  go_cut [48] (fun s wx => s = .bool (Pl.isB3 zs i2) ∧ w = wx)
  case first =>
    by_cases h0 : 0 ≤ i2
    · by_cases hlt : i2 < zs.length
      · have hcell := hc i2.toNat (by omega)
        go_wp2_with fail
        go_meet
        exact ⟨by rw [Pl.isB3_in _ _ h0 hlt], rfl⟩
      · go_wp2_with fail
        go_meet
        exact ⟨by rw [Pl.isB3_ge _ _ (by omega)], rfl⟩
    · go_wp2_with fail
      go_meet
      exact ⟨by rw [Pl.isB3_neg _ _ (by omega)], rfl⟩
  case rest =>
  obtain ⟨rfl, rfl⟩ := hcut
  go_upto_if 48 with fail
  go_cut [1] (fun s wx => s = .int .i64 (Pl.st3 zs i2) ∧ w = wx)
  case first =>
    cases hb : Pl.isB3 zs i2
    · have HB : Hid (Pl.isB3 zs i2 = false) := hb
      go_wp2_with fail
      go_meet
      exact ⟨by simp [Pl.st3, HB.out], rfl⟩
    · obtain ⟨h0, h1, _⟩ := Pl.isB3_true hb
      have HB : Hid (Pl.isB3 zs i2 = true) := hb
      go_wp2_with (go_at_call 44; refine (digitsEnd_any _ _ _ zs _ _ hrd rfl (by omega) (by omega)).mono ?_; rintro e w' ⟨rfl, rfl⟩)
      go_meet
      exact ⟨by simp only [Pl.st3, HB.out, if_true]; rw [show (i2 + 1).toNat = i2.toNat + 1 from by omega], rfl⟩
  case rest =>
  obtain ⟨rfl, rfl⟩ := hcut
  have hst := Pl.st3_bd zs i2 h2'
  generalize Pl.st3 zs i2 = i3 at hst HR2 ⊢
  have h3 : -1 ≤ i3 ∧ i3 ≤ zs.length := by omega
  clear hst h2 h2'
  go_upto_region 8 with fail
  go_cut [74] (fun s wx => s = .bool (Pl.isE zs i3) ∧ w = wx)
  case first =>
    by_cases h0 : 0 ≤ i3
    · by_cases hlt : i3 < zs.length
      · have hcell := hc i3.toNat (by omega)
        have HE : Hid (_) := Pl.isE_in _ _ h0 hlt
        go_wp2_with fail
        all_goals go_meet
        all_goals exact ⟨by rw [HE.out] <;> simp [*], rfl⟩
      · go_wp2_with fail
        go_meet
        exact ⟨by rw [Pl.isE_ge _ _ (by omega)], rfl⟩
    · go_wp2_with fail
      go_meet
      exact ⟨by rw [Pl.isE_neg _ _ (by omega)], rfl⟩
  case rest =>
  obtain ⟨rfl, rfl⟩ := hcut
  cases hb : Pl.isE zs i3
  · have HB : Hid (Pl.isE zs i3 = false) := hb
    go_wp2_with fail
    go_ret
    exact ⟨ret_int (by rw [HR2.out]; simp [Pl.st4, HB.out]), rfl⟩
  · obtain ⟨h0, h1, _⟩ := Pl.isE_true hb
    have HB : Hid (Pl.isE zs i3 = true) := hb
    obtain ⟨i4, rfl⟩ := Int.eq_ofNat_of_zero_le h0
    go_upto_region 10 with fail
    go_cut [94] (fun s wx => s = .bool (Pl.isS zs (i4 + 1)) ∧ w = wx)
    case first =>
      by_cases hlt : i4 + 1 < zs.length
      · have hcell := hc (i4 + 1) (by omega)
        have HE : Hid (_) := Pl.isS_in _ _ hlt
        go_wp2_with fail
        all_goals go_meet
        all_goals exact ⟨by rw [HE.out] <;> simp [*], rfl⟩
      · go_wp2_with fail
        go_meet
        exact ⟨by rw [Pl.isS_ge _ _ (by omega)], rfl⟩
    case rest =>
    obtain ⟨rfl, rfl⟩ := hcut
    have hst := Pl.st5_bd zs (i4 + 1) (by omega)
    go_upto_if 94 with fail
    go_cut [1] (fun s wx => s = .int .i64 (Pl.st5 zs (i4 + 1) : Int) ∧ w = wx)
    case first =>
      cases hb : Pl.isS zs (i4 + 1)
      · have HB : Hid (Pl.isS zs (i4 + 1) = false) := hb
        go_wp2_with fail
        go_meet
        exact ⟨by simp [Pl.st5, HB.out], rfl⟩
      · obtain ⟨h0, h1⟩ := Pl.isS_true hb
        have HB : Hid (Pl.isS zs (i4 + 1) = true) := hb
        go_wp2_with fail
        go_meet
        exact ⟨by simp [Pl.st5, HB.out], rfl⟩
    case rest =>
    obtain ⟨rfl, rfl⟩ := hcut
    go_wp2_with (go_at_call 44; refine (digitsEnd_any _ _ _ zs _ _ hrd rfl (by omega) (by omega)).mono ?_; rintro e w' ⟨rfl, rfl⟩)
    go_ret
    exact ⟨ret_int (by rw [HR2.out]; simp [Pl.st4, HB.out]), rfl⟩

theorem numEnd_nil (i : Nat) : Pl.numEnd [] i = -1 := by
  simp [Pl.numEnd, Pl.st1, Pl.st2, Pl.st3, Pl.st4, Pl.isB, Pl.digEnd, Pl.digRun, Pl.isB3, Pl.isE]

theorem numberEnd_empty (ao : Option Addr) (cap i : Nat) (w : World) :
    Calls Try.prog 37 #[.slice ao 0 cap, .int .i64 i] w fun e w' => e = .returned (.int .i64 (-1)) ∧ w' = w := by
  go_enter Try.func37, Try.ntmps37
  go_wp2_with (go_at_call 44; refine (digitsEnd_empty _ _ _ _).mono ?_; rintro e w' ⟨rfl, rfl⟩)
  go_ret
  exact ⟨rfl, rfl⟩

/-- numberEnd on a slice that reads zs. -/
theorem numberEnd_any (ao : Option Addr) (len cap : Nat) (zs : List Int) (i : Int) (w : World) (h : Rd w ao zs) (hl : zs.length = len) (h0 : 0 ≤ i) (hi : i ≤ 9223372036854775807) :
    Calls Try.prog 37 #[.slice ao len cap, .int .i64 i] w fun e w' => e = .returned (.int .i64 (Pl.numEnd zs i.toNat)) ∧ w' = w := by
  obtain ⟨n, rfl⟩ := Int.eq_ofNat_of_zero_le h0
  subst hl
  rcases h with ⟨hm, rfl | ⟨b, off, rfl, hc⟩⟩
  · rw [numEnd_nil]
    exact numberEnd_empty ao cap n w
  · exact numberEnd_row b off cap n zs w (by unfold maxLen; omega) hm hc

/-- ZZNumberEnd likewise. -/
theorem zzNumberEnd_any (ao : Option Addr) (len cap : Nat) (zs : List Int) (i : Int) (w : World) (h : Rd w ao zs) (hl : zs.length = len) (h0 : 0 ≤ i) (hi : i ≤ 9223372036854775807) :
    Calls Try.prog 14 #[.slice ao len cap, .int .i64 i] w fun e w' => e = .returned (.int .i64 (Pl.numEnd zs i.toNat)) ∧ w' = w := by
  go_enter Try.func14, Try.ntmps14
  go_wp2_with (go_at_call 37; refine (numberEnd_any _ _ _ zs _ _ h hl h0 hi).mono ?_; rintro e w' ⟨rfl, rfl⟩)
  go_ret
  exact ⟨rfl, rfl⟩
end Go.Proofs.Qxb6602575a
