import Derived.Test.Qxb6602575aW6
namespace Go.Proofs.Qxb6602575a
open Go.RowKit

theorem zzBytes10 (ao : Option Addr) (len cap : Nat) (i : Int) (w : World) (hl : len ≤ maxLen) :
    Calls Try.prog 10 #[.slice ao len cap, .int .i64 i] w fun e w' => e = .returned (.bool (decide (len ≤ 1048576))) ∧ w' = w := by
  unfold maxLen at hl
  by_cases h : len ≤ 1048576
  · rw [decide_eq_true h]
    go_enter Try.func10, Try.ntmps10
    go_wp2
    go_ret
    exact ⟨rfl, rfl⟩
  · rw [decide_eq_false h]
    go_enter Try.func10, Try.ntmps10
    go_wp2
    go_ret
    exact ⟨rfl, rfl⟩

theorem match_out (ao : Option Addr) (cap : Nat) (zs : List Int) (i : Int) (w : World) (h : Rd w ao zs) (hb : ¬ (zs.length ≤ 1048576 ∧ 0 ≤ i)) :
    Calls Try.prog 3 #[.slice ao zs.length cap, .int .i64 i] w fun e w' => e = .returned (.bool true) ∧ Below w.heap.size w w' := by
  have hm := h.1
  by_cases hl : zs.length ≤ 1048576
  · have hd : decide (zs.length ≤ 1048576) = true := decide_eq_true hl
    go_enter Try.func3, Try.ntmps3
    go_wp2_with (go_at_call 10; refine (zzBytes10 _ _ _ _ _ (by omega)).mono ?_; rintro e w' ⟨rfl, rfl⟩)
    all_goals go_ret
    all_goals exact ⟨rfl, Below.refl _ _⟩
  · have hd : decide (zs.length ≤ 1048576) = false := decide_eq_false hl
    go_enter Try.func3, Try.ntmps3
    go_wp2_with (go_at_call 10; refine (zzBytes10 _ _ _ _ _ (by omega)).mono ?_; rintro e w' ⟨rfl, rfl⟩)
    all_goals go_ret
    all_goals exact ⟨rfl, Below.refl _ _⟩

theorem numEnd_past (l : List Int) (i : Nat) (h : l.length ≤ i) : Pl.numEnd l i = -1 := by
  rw [Pl.numEnd_run, List.drop_of_length_le h]; rfl

set_option maxHeartbeats 1000000 in
set_option maxRecDepth 100000 in
theorem match_past (ao : Option Addr) (cap : Nat) (zs : List Int) (i : Nat) (w : World) (h : Rd w ao zs) (hn : ao = none → cap = 0) (hb : zs.length ≤ 1048576) (hi : zs.length < i) (hi2 : i ≤ maxLen) :
    Calls Try.prog 3 #[.slice ao zs.length cap, .int .i64 i] w fun e w' => e = .returned (.bool true) ∧ Below w.heap.size w w' := by
  have hm := h.1
  unfold maxLen at hi2
  have hd : decide (zs.length ≤ 1048576) = true := decide_eq_true hb
  go_enter Try.func3, Try.ntmps3
  go_wp2_with (first | (go_at_call 10; refine (zzBytes10 _ _ _ _ _ (by omega)).mono ?_; rintro e w' ⟨rfl, rfl⟩) | (go_at_call 11; refine (clone_any _ _ _ zs _ h rfl hn (by omega)).mono ?_; rintro e w' ⟨ao', rfl, hown, hbel⟩))
  have hr := rd_of_owns hown
  clear hown h
  go_wp2_with fail
  refine (zzNumberEnd_any _ _ _ zs _ _ hr rfl (by omega) (by omega)).mono ?_
  rintro e w' ⟨rfl, rfl⟩
  rw [Int.toNat_natCast, numEnd_past zs i (by omega)]
  go_wp2_with fail
  go_ret
  exact ⟨rfl, hbel⟩

set_option maxHeartbeats 1000000 in
set_option maxRecDepth 100000 in
theorem match_in (ao : Option Addr) (cap : Nat) (zs : List Int) (i : Nat) (w : World) (h : Rd w ao zs) (hn : ao = none → cap = 0) (hb : zs.length ≤ 1048576) (hi : i ≤ zs.length) :
    Calls Try.prog 3 #[.slice ao zs.length cap, .int .i64 i] w fun e w' => e = .returned (.bool true) ∧ Below w.heap.size w w' := by
  have hm := h.1
  have hd : decide (zs.length ≤ 1048576) = true := decide_eq_true hb
  go_enter Try.func3, Try.ntmps3
  go_wp2_with (go_at_call 10; refine (zzBytes10 _ _ _ _ _ (by omega)).mono ?_; rintro e w' ⟨rfl, rfl⟩)
  refine (clone_any _ _ _ zs _ h rfl hn (by omega)).mono ?_
  rintro e w1 ⟨ao', rfl, hown, hbel⟩
  have hr := rd_of_owns hown
  clear hown h
  obtain ⟨L, hL⟩ : ∃ L, L = zs.drop i := ⟨_, rfl⟩
  have hLl : L.length = zs.length - i := by rw [hL]; simp
  have hlong := Pl.longest_le L
  have HN : Hid (Pl.numEnd zs i = if Pl.isNum L (Pl.longest L) false then ((i + Pl.longest L : Nat) : Int) else -1) := by rw [hL]; exact Pl.numEnd_longest zs i
  have HR1 : Hid (zs.length = i → Rd w1 ao' L) := fun e => by rw [hL, List.drop_of_length_le (by omega)]; exact rd_nil _ _
  have HR2 : Hid (Rd w1 (Option.map (fun x => x.add i) ao') L) := by rw [hL]; exact rd_drop hr i
  clear hL
  have HLl : Hid (L.length = zs.length - i) := hLl
  generalize hj : Pl.longest L = j at hlong HN
  have HJ : Hid (Pl.longest L = j) := hj
  have hj2 : i + j ≤ zs.length := by omega
  clear hj hLl hlong
  go_wp2_with fail
  all_goals
    refine (longest_any _ _ _ L _ (by first | exact HR2.out | exact HR1.out (by assumption)) (by first | exact HLl.out | (have := HLl.out; omega)) (by omega)).mono ?_
    rintro _ w2 ⟨rfl, hw2⟩
    replace hw2 := hw2.symm
    subst hw2
    rw [HJ.out]
    go_wp2_with fail
    refine (isNumber_any _ _ _ L j false _ (by first | exact HR2.out | exact HR1.out (by assumption)) (by first | exact HLl.out | (have := HLl.out; omega)) (by omega) (by omega) (by omega)).mono ?_
    rintro _ w2 ⟨rfl, hw2⟩
    replace hw2 := hw2.symm
    subst hw2
    rw [Int.toNat_natCast]
    cases hA : Pl.isNum L j false
    · have HN2 : Hid (Pl.numEnd zs i = -1) := by have := HN.out; rw [hA] at this; exact this
      clear hA
      go_wp2_with fail
      refine (zzNumberEnd_any _ _ _ zs _ _ hr (by omega) (by omega) (by omega)).mono ?_
      rintro _ w2 ⟨rfl, hw2⟩
      replace hw2 := hw2.symm
      subst hw2
      rw [Int.toNat_natCast, HN2.out]
      go_wp2_with fail
      go_ret
      exact ⟨rfl, hbel⟩
    · have HN2 : Hid (Pl.numEnd zs i = (i : Int) + (j : Int)) := by have e := HN.out; rw [hA, if_pos rfl] at e; show _ = _; omega
      clear hA
      go_wp2_with fail
      refine (zzNumberEnd_any _ _ _ zs _ _ hr (by omega) (by omega) (by omega)).mono ?_
      rintro _ w2 ⟨rfl, hw2⟩
      replace hw2 := hw2.symm
      subst hw2
      rw [Int.toNat_natCast, HN2.out]
      go_wp2_with fail
      go_ret
      exact ⟨rfl, hbel⟩

theorem match_core (ao : Option Addr) (len cap : Nat) (zs : List Int) (i : Int) (w : World) (h : Rd w ao zs) (hl : zs.length = len) (hn : ao = none → cap = 0) (hi : i ≤ 9223372036854775807) :
    Calls Try.prog 3 #[.slice ao len cap, .int .i64 i] w fun e w' => e = .returned (.bool true) ∧ Below w.heap.size w w' := by
  subst hl
  by_cases hb : zs.length ≤ 1048576 ∧ 0 ≤ i
  · obtain ⟨h1, h2⟩ := hb
    obtain ⟨n, rfl⟩ := Int.eq_ofNat_of_zero_le h2
    by_cases h3 : n ≤ zs.length
    · exact match_in ao cap zs n w h hn h1 h3
    · exact match_past ao cap zs n w h hn h1 (by omega) (by unfold maxLen; omega)
  · exact match_out ao cap zs i w h hb
end Go.Proofs.Qxb6602575a
