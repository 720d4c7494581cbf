import Derived.Test.Qxb6602575aW4
namespace Go.Proofs.Qxb6602575a
open Go.RowKit

theorem ee_false {c : Int} (h : Pl.ee c = false) : (c == 101) = false ∧ (c == 69) = false := by
  simp [Pl.ee] at h; simp [h]
theorem ee_true {c : Int} (h : Pl.ee c = true) : (c == 101) = true ∨ ((c == 101) = false ∧ (c == 69) = true) := by
  simp [Pl.ee] at h
  by_cases h1 : c = 101
  · left; simp [h1]
  · right; simp [h1]; omega
theorem sg_false {c : Int} (h : Pl.sg c = false) : (c == 43) = false ∧ (c == 45) = false := by
  simp [Pl.sg] at h; simp [h]
theorem sg_true {c : Int} (h : Pl.sg c = true) : (c == 43) = true ∨ ((c == 43) = false ∧ (c == 45) = true) := by
  simp [Pl.sg] at h
  by_cases h1 : c = 43
  · left; simp [h1]
  · right; simp [h1]; omega

set_option maxHeartbeats 3000000 in
set_option maxRecDepth 100000 in
theorem isNumber_nat (ao : Option Addr) (len cap : Nat) (zs : List Int) (n : Nat) (pad : Bool) (w : World) (h : Rd w ao zs) (hl : zs.length = len) (hz : len ≤ 1099511627776) (hn : n ≤ len) :
    Calls Try.prog 13 #[.slice ao len cap, .int .i64 n, .bool pad] w fun e w' => e = .returned (.bool (Pl.isNum zs n pad)) ∧ w' = w := by
  have hX : (zs.take n ++ [48]).length = n + 1 := by simp; omega
  unfold Pl.isNum
  obtain ⟨X, hXe⟩ : ∃ X, X = zs.take n ++ [48] := ⟨_, rfl⟩
  have HX : Hid (X = zs.take n ++ [48]) := hXe
  rw [← hXe] at hX ⊢
  clear hXe
  obtain ⟨r, hr⟩ : ∃ r, r = Pl.isNumX X (Pl.padTo n pad) := ⟨_, rfl⟩
  have HR : Hid (r = Pl.isNumX X (Pl.padTo n pad)) := hr
  rw [← hr]; clear hr
  go_enter Try.func13, Try.ntmps13
  go_upto_if 16 with fail
  go_cut [7] (fun s wx => s = .int .i64 (Pl.padTo n pad : Nat) ∧ w = wx)
  case first =>
    cases pad
    · go_wp2_with fail
      go_meet
      exact ⟨rfl, rfl⟩
    · go_wp2_with fail
      go_meet
      exact ⟨by simp [Pl.padTo], rfl⟩
  case rest =>
  obtain ⟨rfl, rfl⟩ := hcut
  have hm : n ≤ Pl.padTo n pad ∧ Pl.padTo n pad ≤ n + 1 := by unfold Pl.padTo; split <;> omega
  generalize Pl.padTo n pad = m at hm HR ⊢
  obtain ⟨hm1, hm2⟩ := hm
  -- the first e or E
  go_upto_block 0 with fail
  go_cut [8] (fun s wx => s = .int .i64 (Pl.fE X m : Nat) ∧ w = wx)
  case first =>
    have HE1 : Hid (_) := Pl.first_hit Pl.ee X m
    have HE2 : Hid (_) := Pl.first_none Pl.ee X m
    go_wp2_with fail
    go_loop [8, 9] (fun s t => ∃ k : Nat, k ≤ m ∧ s = .int .i64 m ∧ t = .int .i64 k ∧ ∀ j, j < k → Pl.ee (Pl.bt X j) = false) (fun _ t => m - (intOf t).toNat)
    case atStart => exact ⟨0, Nat.zero_le _, rfl, rfl, fun j h => by omega⟩
    case round =>
      obtain ⟨k, hk, rfl, rfl, hall⟩ := hrel
      have HA : Hid (_) := hall
      clear hall
      by_cases hkm : k < m
      · cases hd : Pl.ee (Pl.bt X k) with
        | true =>
          have HD : Hid (_) := HE1.out k (by omega) hkm HA.out hd
          rcases ee_true hd with h1 | ⟨h1, h2⟩
          all_goals
            clear hd
            go_wp2_with (go_at_call 35; refine (byteAt_any _ _ _ zs _ _ _ h hl (by omega) (by omega) (by omega) (by omega)).mono ?_; rintro e w' ⟨rfl, rfl⟩; rw [Int.toNat_natCast, Int.toNat_natCast, ← HX.out])
            go_meet
            exact ⟨by unfold Pl.fE; rw [HD.out], rfl⟩
        | false =>
          have HD : Hid (Pl.ee (Pl.bt X k) = false) := hd
          obtain ⟨h1, h2⟩ := ee_false hd
          clear hd
          go_wp2_with (go_at_call 35; refine (byteAt_any _ _ _ zs _ _ _ h hl (by omega) (by omega) (by omega) (by omega)).mono ?_; rintro e w' ⟨rfl, rfl⟩; rw [Int.toNat_natCast, Int.toNat_natCast, ← HX.out])
          go_round
          case rel =>
            refine ⟨k + 1, by omega, rfl, by go_num, fun j hj => ?_⟩
            by_cases hjk : j = k
            · subst hjk; exact HD.out
            · exact HA.out j (by omega)
          case measure => simp [intOf]; omega
      · have hkk : k = m := by omega
        subst hkk
        have HD : Hid (_) := HE2.out (by omega) HA.out
        go_wp2_with fail
        go_meet
        exact ⟨by unfold Pl.fE; rw [HD.out], rfl⟩
  case rest =>
  obtain ⟨rfl, rfl⟩ := hcut
  have hE := Pl.first_le Pl.ee X m
  have HR2 : Hid (r = (Pl.allD X (Pl.loI X (Pl.fD X (Pl.fE X m))) (Pl.fD X (Pl.fE X m)) && !Pl.lead X (Pl.loI X (Pl.fD X (Pl.fE X m))) (Pl.fD X (Pl.fE X m)) && !Pl.fracBad X (Pl.fD X (Pl.fE X m)) (Pl.fE X m) && !Pl.expBad X (Pl.fE X m) m)) := HR
  clear HR
  have hE' : Pl.fE X m ≤ m := hE
  clear hE
  generalize Pl.fE X m = e at hE' HR2 ⊢
  -- the first point
  go_upto_block 2 with fail
  go_cut [11] (fun s wx => s = .int .i64 (Pl.fD X e : Nat) ∧ w = wx)
  case first =>
    have HE1 : Hid (_) := Pl.first_hit Pl.pt X e
    have HE2 : Hid (_) := Pl.first_none Pl.pt X e
    go_wp2_with fail
    go_loop [11, 12] (fun s t => ∃ k : Nat, k ≤ e ∧ s = .int .i64 e ∧ t = .int .i64 k ∧ ∀ j, j < k → Pl.pt (Pl.bt X j) = false) (fun _ t => e - (intOf t).toNat)
    case atStart => exact ⟨0, Nat.zero_le _, rfl, rfl, fun j h => by omega⟩
    case round =>
      obtain ⟨k, hk, rfl, rfl, hall⟩ := hrel
      have HA : Hid (_) := hall
      clear hall
      by_cases hkm : k < e
      · cases hd : Pl.pt (Pl.bt X k) with
        | true =>
          have HD : Hid (_) := HE1.out k (by omega) hkm HA.out hd
          have h1 : (Pl.bt X k == 46) = true := hd
          clear hd
          go_wp2_with (go_at_call 35; refine (byteAt_any _ _ _ zs _ _ _ h hl (by omega) (by omega) (by omega) (by omega)).mono ?_; rintro e w' ⟨rfl, rfl⟩; rw [Int.toNat_natCast, Int.toNat_natCast, ← HX.out])
          go_meet
          exact ⟨by unfold Pl.fD; rw [HD.out], rfl⟩
        | false =>
          have HD : Hid (Pl.pt (Pl.bt X k) = false) := hd
          have h1 : (Pl.bt X k == 46) = false := hd
          clear hd
          go_wp2_with (go_at_call 35; refine (byteAt_any _ _ _ zs _ _ _ h hl (by omega) (by omega) (by omega) (by omega)).mono ?_; rintro e w' ⟨rfl, rfl⟩; rw [Int.toNat_natCast, Int.toNat_natCast, ← HX.out])
          go_round
          case rel =>
            refine ⟨k + 1, by omega, rfl, by go_num, fun j hj => ?_⟩
            by_cases hjk : j = k
            · subst hjk; exact HD.out
            · exact HA.out j (by omega)
          case measure => simp [intOf]; omega
      · have hkk : k = e := by omega
        subst hkk
        have HD : Hid (_) := HE2.out (by omega) HA.out
        go_wp2_with fail
        go_meet
        exact ⟨by unfold Pl.fD; rw [HD.out], rfl⟩
  case rest =>
  obtain ⟨rfl, rfl⟩ := hcut
  have hD : Pl.fD X e ≤ e := Pl.first_le Pl.pt X e
  generalize Pl.fD X e = d at hD HR2 ⊢
  -- the minus
  go_upto_region 18 with fail
  go_cut [57] (fun s wx => s = .bool (Pl.minus X d) ∧ w = wx)
  case first =>
    by_cases h0 : 0 < d
    · go_wp2_with (go_at_call 35; refine (byteAt_any _ _ _ zs _ _ _ h hl (by omega) (by omega) (by omega) (by omega)).mono ?_; rintro e w' ⟨rfl, rfl⟩; rw [Int.toNat_natCast, show (0 : Int).toNat = 0 from rfl, ← HX.out])
      go_meet
      exact ⟨by simp [Pl.minus, h0], rfl⟩
    · go_wp2_with fail
      go_meet
      exact ⟨by simp [Pl.minus, h0], rfl⟩
  case rest =>
  obtain ⟨rfl, rfl⟩ := hcut
  go_upto_if 57 with fail
  go_cut [13] (fun s wx => s = .int .i64 (Pl.loI X d : Nat) ∧ w = wx)
  case first =>
    cases hb : Pl.minus X d
    · have HB : Hid (Pl.minus X d = false) := hb
      go_wp2_with fail
      go_meet
      exact ⟨by simp [Pl.loI, HB.out], rfl⟩
    · have HB : Hid (Pl.minus X d = true) := hb
      go_wp2_with fail
      go_meet
      exact ⟨by simp [Pl.loI, HB.out], rfl⟩
  case rest =>
  obtain ⟨rfl, rfl⟩ := hcut
  have hlo : Pl.loI X d ≤ 1 ∧ Pl.loI X d ≤ d := by
    unfold Pl.loI; split
    · rename_i hb; simp [Pl.minus] at hb; omega
    · omega
  generalize Pl.loI X d = lo at hlo HR2 ⊢
  obtain ⟨hlo1, hlo2⟩ := hlo
  go_wp2_with fail
  refine (allDigits_any _ _ _ zs _ _ _ _ h hl hz (by omega) (by omega) (by omega) (by omega) (by omega) (by omega)).mono ?_
  rintro _ w1 ⟨rfl, hw1⟩
  replace hw1 := hw1.symm
  subst hw1
  rw [Int.toNat_natCast, Int.toNat_natCast, Int.toNat_natCast, ← HX.out]
  cases hA : Pl.allD X lo d
  · have HA : Hid (Pl.allD X lo d = false) := hA
    clear hA
    go_wp2_with fail
    go_ret
    exact ⟨ret_bool (by rw [HR2.out, HA.out]; rfl), rfl⟩
  have HA : Hid (Pl.allD X lo d = true) := hA
  clear hA
  go_upto_region 22 with fail
  go_cut [76] (fun s wx => s = .bool (Pl.lead X lo d) ∧ w = wx)
  case first =>
    by_cases h0 : lo + 1 < d
    · have h0' : (1 : Int) < (d : Int) - (lo : Int) := by omega
      go_wp2_with (go_at_call 35; refine (byteAt_any _ _ _ zs _ _ _ h hl (by omega) (by omega) (by omega) (by omega)).mono ?_; rintro e w' ⟨rfl, rfl⟩; rw [Int.toNat_natCast, Int.toNat_natCast, ← HX.out])
      go_meet
      exact ⟨by simp [Pl.lead, h0], rfl⟩
    · have h0' : ¬ (1 : Int) < (d : Int) - (lo : Int) := by omega
      go_wp2_with fail
      go_meet
      exact ⟨by simp [Pl.lead, h0], rfl⟩
  case rest =>
  obtain ⟨rfl, rfl⟩ := hcut
  cases hB : Pl.lead X lo d
  case true =>
    have HB : Hid (Pl.lead X lo d = true) := hB
    go_wp2_with fail
    go_ret
    exact ⟨ret_bool (by rw [HR2.out, HA.out, HB.out]; rfl), rfl⟩
  have HB : Hid (Pl.lead X lo d = false) := hB
  go_upto_region 24 with fail
  go_cut [88] (fun s wx => s = .bool (Pl.fracBad X d e) ∧ w = wx)
  case first =>
    by_cases h0 : d < e
    · go_wp2_with (go_at_call 36; refine (allDigits_any _ _ _ zs _ _ _ _ h hl hz (by omega) (by omega) (by omega) (by omega) (by omega) (by omega)).mono ?_; rintro _ _ ⟨rfl, rfl⟩; rw [Int.toNat_natCast, Int.toNat_natCast, show ((d : Int) + 1).toNat = d + 1 from by omega, ← HX.out])
      go_meet
      exact ⟨by simp [Pl.fracBad, h0], rfl⟩
    · go_wp2_with fail
      go_meet
      exact ⟨by simp [Pl.fracBad, h0], rfl⟩
  case rest =>
  obtain ⟨rfl, rfl⟩ := hcut
  clear hB
  cases hB : Pl.fracBad X d e
  case true =>
    have HF : Hid (Pl.fracBad X d e = true) := hB
    go_wp2_with fail
    go_ret
    exact ⟨ret_bool (by rw [HR2.out, HA.out, HB.out, HF.out]; rfl), rfl⟩
  have HF : Hid (Pl.fracBad X d e = false) := hB
  by_cases hem : e < m
  case neg =>
    have HG : Hid (Pl.expBad X e m = false) := by show Pl.expBad X e m = false; simp [Pl.expBad, hem]
    go_wp2_with fail
    go_ret
    exact ⟨ret_bool (by rw [HR2.out, HA.out, HB.out, HF.out, HG.out]; rfl), rfl⟩
  have HG : Hid (Pl.expBad X e m = !Pl.allD X (Pl.loE X e m) m) := by show Pl.expBad X e m = _; simp [Pl.expBad, hem]
  have hloE : e + 1 ≤ Pl.loE X e m ∧ Pl.loE X e m ≤ e + 2 := by unfold Pl.loE; split <;> omega
  go_upto_if 96 with fail
  go_cut [13] (fun s wx => s = .int .i64 (Pl.loE X e m : Nat) ∧ w = wx)
  case first =>
    by_cases h0 : e + 1 < m
    · have HL : Hid (Pl.loE X e m = if Pl.sg (Pl.bt X (e + 1)) then e + 2 else e + 1) := by show Pl.loE X e m = _; simp [Pl.loE, h0]
      cases hd : Pl.sg (Pl.bt X (e + 1)) with
      | true =>
        rw [hd] at HL
        rcases sg_true hd with h1 | ⟨h1, h2⟩
        all_goals
          clear hd
          go_wp2_with (go_at_call 35; refine (byteAt_any _ _ _ zs _ _ _ h hl (by omega) (by omega) (by omega) (by omega)).mono ?_; rintro e w' ⟨rfl, rfl⟩; rw [Int.toNat_natCast, show ((e : Int) + 1).toNat = e + 1 from by omega, ← HX.out])
          go_meet
          exact ⟨by rw [HL.out]; go_num, rfl⟩
      | false =>
        rw [hd] at HL
        obtain ⟨h1, h2⟩ := sg_false hd
        clear hd
        go_wp2_with (go_at_call 35; refine (byteAt_any _ _ _ zs _ _ _ h hl (by omega) (by omega) (by omega) (by omega)).mono ?_; rintro e w' ⟨rfl, rfl⟩; rw [Int.toNat_natCast, show ((e : Int) + 1).toNat = e + 1 from by omega, ← HX.out])
        go_meet
        exact ⟨by rw [HL.out]; go_num, rfl⟩
    · have HL : Hid (Pl.loE X e m = e + 1) := by show Pl.loE X e m = _; simp [Pl.loE, h0]
      go_wp2_with fail
      go_meet
      exact ⟨by rw [HL.out]; go_num, rfl⟩
  case rest =>
  obtain ⟨rfl, rfl⟩ := hcut
  generalize Pl.loE X e m = lo2 at hloE HG ⊢
  obtain ⟨hl1, hl2⟩ := hloE
  go_wp2_with fail
  refine (allDigits_any _ _ _ zs _ _ _ _ h hl hz (by omega) (by omega) (by omega) (by omega) (by omega) (by omega)).mono ?_
  rintro _ _ ⟨rfl, rfl⟩
  rw [Int.toNat_natCast, Int.toNat_natCast, Int.toNat_natCast, ← HX.out]
  cases hA2 : Pl.allD X lo2 m
  · have HA2 : Hid (Pl.allD X lo2 m = false) := hA2
    clear hA2
    go_wp2_with fail
    go_ret
    exact ⟨ret_bool (by rw [HR2.out, HA.out, HB.out, HF.out, HG.out, HA2.out]; rfl), rfl⟩
  · have HA2 : Hid (Pl.allD X lo2 m = true) := hA2
    clear hA2
    go_wp2_with fail
    go_ret
    exact ⟨ret_bool (by rw [HR2.out, HA.out, HB.out, HF.out, HG.out, HA2.out]; rfl), rfl⟩

theorem isNumber_any (ao : Option Addr) (len cap : Nat) (zs : List Int) (n : Int) (pad : Bool) (w : World) (h : Rd w ao zs) (hl : zs.length = len) (hz : len ≤ 1099511627776) (h0 : 0 ≤ n) (hn : n ≤ len) :
    Calls Try.prog 13 #[.slice ao len cap, .int .i64 n, .bool pad] w fun e w' => e = .returned (.bool (Pl.isNum zs n.toNat pad)) ∧ w' = w := by
  obtain ⟨n, rfl⟩ := Int.eq_ofNat_of_zero_le h0
  exact isNumber_nat ao len cap zs n pad w h hl hz (by omega)
end Go.Proofs.Qxb6602575a
