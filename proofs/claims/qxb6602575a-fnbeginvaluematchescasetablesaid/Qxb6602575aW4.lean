import Derived.Test.Qxb6602575aW3
import Derived.Test.Qxb6602575aPlain2
namespace Go.Proofs.Qxb6602575a
open Go.RowKit

theorem ret_bool {a b : Bool} (h : a = b) : Ending.returned (.bool a) = .returned (.bool b) := by rw [h]

theorem isDigit_any (c : Int) (w : World) :
    Calls Try.prog 32 #[.int .u8 c] w fun e w' => e = .returned (.bool (Pl.dig c)) ∧ w' = w := by
  by_cases h1 : 48 ≤ c
  · by_cases h2 : c ≤ 57
    · rw [(Pl.dig_iff c).2 ⟨h1, h2⟩]
      go_enter Try.func32, Try.ntmps32
      go_wp2
      go_ret
      exact ⟨rfl, rfl⟩
    · have : Pl.dig c = false := by simp [Pl.dig]; omega
      rw [this]
      go_enter Try.func32, Try.ntmps32
      go_wp2
      go_ret
      exact ⟨rfl, rfl⟩
  · have : Pl.dig c = false := by simp [Pl.dig]; omega
    rw [this]
    go_enter Try.func32, Try.ntmps32
    go_wp2
    go_ret
    exact ⟨rfl, rfl⟩

theorem byteAt_any (ao : Option Addr) (len cap : Nat) (zs : List Int) (n k : Int) (w : World) (h : Rd w ao zs) (hl : zs.length = len) (h0 : 0 ≤ n) (hn : n ≤ len) (hk0 : 0 ≤ k) (hk : k ≤ n) :
    Calls Try.prog 35 #[.slice ao len cap, .int .i64 n, .int .i64 k] w fun e w' => e = .returned (.int .u8 (Pl.bt (zs.take n.toNat ++ [48]) k.toNat)) ∧ w' = w := by
  obtain ⟨n, rfl⟩ := Int.eq_ofNat_of_zero_le h0
  obtain ⟨k, rfl⟩ := Int.eq_ofNat_of_zero_le hk0
  subst hl
  have hm := h.1
  rw [Int.toNat_natCast, Int.toNat_natCast, ← Pl.ba_pad zs n k (by omega) (by omega)]
  unfold Pl.ba
  by_cases hkn : k < n
  · rw [if_pos hkn]
    rcases h with ⟨_, rfl | ⟨b, off, rfl, hc⟩⟩
    · simp at hn; omega
    · have hcell := hc k (by omega)
      clear hc
      go_enter Try.func35, Try.ntmps35
      go_wp2
      go_ret
      exact ⟨rfl, rfl⟩
  · rw [if_neg hkn]
    go_enter Try.func35, Try.ntmps35
    go_wp2
    go_ret
    exact ⟨rfl, rfl⟩

set_option maxHeartbeats 400000 in
theorem allDigits_any (ao : Option Addr) (len cap : Nat) (zs : List Int) (n lo hi : Int) (w : World) (h : Rd w ao zs) (hl : zs.length = len) (hz : len ≤ 1099511627776) (h0 : 0 ≤ n) (hn : n ≤ len) (hlo : 0 ≤ lo) (hlo' : lo ≤ n + 2) (hhi0 : 0 ≤ hi) (hhi : hi ≤ n + 1) :
    Calls Try.prog 36 #[.slice ao len cap, .int .i64 n, .int .i64 lo, .int .i64 hi] w fun e w' => e = .returned (.bool (Pl.allD (zs.take n.toNat ++ [48]) lo.toNat hi.toNat)) ∧ w' = w := by
  obtain ⟨n, rfl⟩ := Int.eq_ofNat_of_zero_le h0
  obtain ⟨lo, rfl⟩ := Int.eq_ofNat_of_zero_le hlo
  obtain ⟨hi, rfl⟩ := Int.eq_ofNat_of_zero_le hhi0
  have hX : (zs.take n ++ [48]).length = n + 1 := by simp; omega
  obtain ⟨X, hXe⟩ : ∃ X, X = zs.take n ++ [48] := ⟨_, rfl⟩
  have HX : Hid (X = zs.take n ++ [48]) := hXe
  rw [Int.toNat_natCast, Int.toNat_natCast, Int.toNat_natCast, ← hXe]
  rw [← hXe] at hX
  clear hXe
  by_cases hlt : lo < hi
  · have H0 : Hid (_) := Pl.allD_true X lo hi hlt (by omega)
    have H1 : Hid (_) := Pl.allD_false X lo hi
    obtain ⟨r, hr⟩ : ∃ r, r = Pl.allD X lo hi := ⟨_, rfl⟩
    rw [← hr] at H0 ⊢
    have HR : Hid (r = Pl.allD X lo hi) := hr
    clear hr
    have hdl : decide (hi ≤ lo) = false := decide_eq_false (by omega)
    go_enter Try.func36, Try.ntmps36
    go_wp2_with fail
    go_loop [9] (fun t => ∃ k : Nat, lo ≤ k ∧ k ≤ hi ∧ t = .int .i64 k ∧ ∀ j, lo ≤ j → j < k → Pl.dig (Pl.bt X j) = true) (fun t => hi - (intOf t).toNat)
    case atStart => exact ⟨lo, Nat.le_refl _, by omega, rfl, fun j h1 h2 => by omega⟩
    case round =>
      obtain ⟨k, hk1, hk2, rfl, hall⟩ := hrel
      have HA : Hid (_) := hall
      clear hall
      by_cases hkh : k < hi
      · cases hd : Pl.dig (Pl.bt X k) with
        | true =>
          have HD : Hid (Pl.dig (Pl.bt X k) = true) := hd
          clear hd
          go_wp2_with (first | (go_at_call 35; refine (byteAt_any _ _ _ zs _ _ _ h hl (by omega) (by omega) (by omega) (by omega)).mono ?_; rintro e w' ⟨rfl, rfl⟩; rw [Int.toNat_natCast, Int.toNat_natCast, ← HX.out]) | (go_at_call 32; refine (isDigit_any _ _).mono ?_; rintro e w' ⟨rfl, rfl⟩; rw [HD.out]))
          go_round
          case rel =>
            refine ⟨k + 1, by omega, by omega, by go_num, fun j h1 h2 => ?_⟩
            by_cases hj : j = k
            · subst hj; exact HD.out
            · exact HA.out j h1 (by omega)
          case measure => simp [intOf]; omega
        | false =>
          have HD : Hid (Pl.dig (Pl.bt X k) = false) := hd
          clear hd
          go_wp2_with (first | (go_at_call 35; refine (byteAt_any _ _ _ zs _ _ _ h hl (by omega) (by omega) (by omega) (by omega)).mono ?_; rintro e w' ⟨rfl, rfl⟩; rw [Int.toNat_natCast, Int.toNat_natCast, ← HX.out]) | (go_at_call 32; refine (isDigit_any _ _).mono ?_; rintro e w' ⟨rfl, rfl⟩; rw [HD.out]))
          go_ret
          exact ⟨ret_bool (by rw [HR.out, H1.out k hk1 hkh (by omega) HD.out]), rfl⟩
      · have hkk : k = hi := by omega
        go_wp2_with fail
        go_ret
        exact ⟨ret_bool (by rw [H0.out (fun j h1 h2 => HA.out j h1 (by omega))]), rfl⟩
  · rw [Pl.allD_empty X lo hi (by omega)]
    go_enter Try.func36, Try.ntmps36
    go_wp2_with fail
    go_ret
    exact ⟨rfl, rfl⟩
end Go.Proofs.Qxb6602575a
