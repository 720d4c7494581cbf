import Derived.Test.Qxb6602575aW3
import Derived.Test.Qxb6602575aDfa
namespace Go.Proofs.Qxb6602575a
open Go.RowKit

theorem zzBytes15 (ao : Option Addr) (len cap : Nat) (i : Int) (w : World) (hl : len ≤ maxLen) :
    Calls Try.prog 15 #[.slice ao len cap, .int .i64 i] w fun e w' => e = .returned (.bool (decide (len ≤ 1048576))) ∧ w' = w := by
  unfold maxLen at hl
  by_cases h : len ≤ 1048576
  · rw [decide_eq_true h]
    go_enter Try.func15, Try.ntmps15
    go_wp2
    go_ret
    exact ⟨rfl, rfl⟩
  · rw [decide_eq_false h]
    go_enter Try.func15, Try.ntmps15
    go_wp2
    go_ret
    exact ⟨rfl, rfl⟩

set_option maxHeartbeats 2000000 in
set_option maxRecDepth 100000 in
theorem looks_in (ao : Option Addr) (cap : Nat) (zs : List Int) (n : Nat) (w : World) (h : Rd w ao zs) (hn : ao = none → cap = 0) (hb : zs.length ≤ 1048576) (hi : n ≤ zs.length) :
    Calls Try.prog 4 #[.slice ao zs.length cap, .int .i64 n] w fun e w' => e = .returned (.bool true) ∧ Below w.heap.size w w' := by
  have hm := h.1
  have hd : decide (zs.length ≤ 1048576) = true := decide_eq_true hb
  go_enter Try.func4, Try.ntmps4
  go_wp2_with (first | (go_at_call 15; refine (zzBytes15 _ _ _ _ _ (by omega)).mono ?_; rintro e w' ⟨rfl, rfl⟩) | (go_at_call 11; refine (clone_any _ _ _ zs _ h rfl hn (by omega)).mono ?_; rintro e w' ⟨ao', rfl, hown, hbel⟩))
  have hr := rd_of_owns hown
  clear hown h
  go_wp2_with fail
  refine (zzNumberEnd_any _ _ _ zs _ _ hr rfl (by omega) (by omega)).mono ?_
  rintro e w' ⟨rfl, rfl⟩
  rw [Int.toNat_natCast]
  by_cases hnone : Pl.numEnd zs n = -1
  · have hz := Pl.looks_none zs n hnone
    rw [hnone]
    clear hnone
    go_wp2_with fail
    · refine (zzNumberEnd_any _ _ _ (zs.drop n) 0 _ (by rw [List.drop_of_length_le (by omega)]; exact rd_nil _ _) (by simp; omega) (by omega) (by omega)).mono ?_
      rintro e w' ⟨rfl, rfl⟩
      rw [show (0 : Int).toNat = 0 from rfl, hz]
      go_wp2_with fail
      go_ret
      exact ⟨rfl, hbel⟩
    · refine (zzNumberEnd_any _ _ _ (zs.drop n) 0 _ (rd_drop hr n) (by simp) (by omega) (by omega)).mono ?_
      rintro e w' ⟨rfl, rfl⟩
      rw [show (0 : Int).toNat = 0 from rfl, hz]
      go_wp2_with fail
      go_ret
      exact ⟨rfl, hbel⟩
  · obtain ⟨j, hj1, hj2, hj3, hj4, hj5, hj6⟩ := Pl.looks_all zs n hnone
    rw [hj3]
    have H1 : Hid (_) := hj4
    have H2 : Hid (_) := hj5
    have H3 : Hid (_) := hj6
    clear hnone hj3 hj4 hj5 hj6
    go_wp2_with fail
    refine (zzNumberEnd_any _ _ _ (zs.drop n) 0 _ (rd_drop hr n) (by simp) (by omega) (by omega)).mono ?_
    rintro e w' ⟨rfl, rfl⟩
    rw [show (0 : Int).toNat = 0 from rfl, H1.out]
    go_wp2_with fail
    refine (zzNumberEnd_any _ _ _ ((zs.drop n).take (j - n)) 0 _ (rd_take (rd_drop hr n) _) (by simp; omega) (by omega) (by omega)).mono ?_
    rintro e w' ⟨rfl, rfl⟩
    rw [show (0 : Int).toNat = 0 from rfl, H2.out]
    go_wp2_with fail
    refine (zzNumberEnd_any _ _ _ (zs.take j) n _ (rd_take hr _) (by simp; omega) (by omega) (by omega)).mono ?_
    rintro e w' ⟨rfl, rfl⟩
    rw [Int.toNat_natCast, H3.out]
    go_wp2_with fail
    go_ret
    exact ⟨rfl, hbel⟩

theorem looks_out (ao : Option Addr) (cap : Nat) (zs : List Int) (i : Int) (w : World) (h : Rd w ao zs) (hb : ¬ (zs.length ≤ 1048576 ∧ 0 ≤ i ∧ i ≤ zs.length)) :
    Calls Try.prog 4 #[.slice ao zs.length cap, .int .i64 i] w fun e w' => e = .returned (.bool true) ∧ Below w.heap.size w w' := by
  have hm := h.1
  by_cases hl : zs.length ≤ 1048576
  · have hd : decide (zs.length ≤ 1048576) = true := decide_eq_true hl
    go_enter Try.func4, Try.ntmps4
    go_wp2_with (go_at_call 15; refine (zzBytes15 _ _ _ _ _ (by omega)).mono ?_; rintro e w' ⟨rfl, rfl⟩)
    all_goals go_ret
    all_goals exact ⟨rfl, Below.refl _ _⟩
  · have hd : decide (zs.length ≤ 1048576) = false := decide_eq_false hl
    go_enter Try.func4, Try.ntmps4
    go_wp2_with (go_at_call 15; refine (zzBytes15 _ _ _ _ _ (by omega)).mono ?_; rintro e w' ⟨rfl, rfl⟩)
    all_goals go_ret
    all_goals exact ⟨rfl, Below.refl _ _⟩
end Go.Proofs.Qxb6602575a
namespace Go.Proofs.Qxb6602575a
open Go.RowKit
theorem looks_core (ao : Option Addr) (len cap : Nat) (zs : List Int) (i : Int) (w : World) (h : Rd w ao zs) (hl : zs.length = len) (hn : ao = none → cap = 0) :
    Calls Try.prog 4 #[.slice ao len cap, .int .i64 i] w fun e w' => e = .returned (.bool true) ∧ Below w.heap.size w w' := by
  subst hl
  by_cases hb : zs.length ≤ 1048576 ∧ 0 ≤ i ∧ i ≤ zs.length
  · obtain ⟨h1, h2, h3⟩ := hb
    obtain ⟨n, rfl⟩ := Int.eq_ofNat_of_zero_le h2
    exact looks_in ao cap zs n w h hn h1 (by omega)
  · exact looks_out ao cap zs i w h hb
end Go.Proofs.Qxb6602575a
