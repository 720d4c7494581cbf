import Derived.Test.Qxb6602575aW16
namespace Go.Proofs.Qxb6602575a
open Go.RowKit

/-- What the check of all lengths answers. -/
def ZZpost (w : World) (lp : Nat) (s : Str) (e : Ending) (w' : World) : Prop :=
  ∃ b, e = .returned (.bool b) ∧ Below w.heap.size w w' ∧ (b = true → lp ≤ 1048576 ∧ s.path.n ≤ 1048576 ∧ s.closers.n ≤ 1048576 ∧ s.name.n ≤ 1048576 ∧ s.kept.n ≤ 1048576)
theorem ZZ_no {w w' : World} {lp : Nat} {s : Str} {e : Ending} (h : Below w.heap.size w w') (he : e = .returned (.bool false)) : ZZpost w lp s e w' := ⟨false, he, h, fun h => by cases h⟩
theorem ZZ_yes {w w' : World} {lp : Nat} {s : Str} {e : Ending} (h : Below w.heap.size w w') (he : e = .returned (.bool true)) (hh : lp ≤ 1048576 ∧ s.path.n ≤ 1048576 ∧ s.closers.n ≤ 1048576 ∧ s.name.n ≤ 1048576 ∧ s.kept.n ≤ 1048576) : ZZpost w lp s e w' := ⟨true, he, h, fun _ => hh⟩

set_option maxHeartbeats 2000000 in
set_option maxRecDepth 100000 in
theorem zzBytes16 (ap : Option Addr) (lp cp : Nat) (i : Int) (s : Str) (C : Con) (w : World) (hr : RdS w s.path.a C.path) (hn : C.path.length = s.path.n) (hlp : lp ≤ maxLen) (hcl : s.closers.n ≤ maxLen) (hnm : s.name.n ≤ maxLen) (hkp : s.kept.n ≤ maxLen) (hwd : s.word.size ≤ maxLen) :
    Calls Try.prog 16 #[.slice ap lp cp, .int .i64 i, .agg s.cells30] w fun e w' => ZZpost w lp s e w' := by
  have hpl : s.path.n ≤ maxLen := by have := hr.1; omega
  unfold maxLen at hlp hcl hnm hkp hwd hpl
  have HR : Hid (RdS w s.path.a C.path) := hr
  have HN : Hid (C.path.length = s.path.n) := hn
  clear hr hn
  go_enter Try.func16, Try.ntmps16
  go_upto_region 1 with fail
  go_cut [7] (fun t wx => t = .int .i64 0 ∧ Blk wx w.heap.size 30 s.cells30 ∧ Below w.heap.size w wx)
  case first =>
    go_wp2_with fail
    go_meet
    exact ⟨rfl, Blk.last w 30 _, (Below.refl _ _).alloc (Nat.le_refl _) _⟩
  case rest =>
  obtain ⟨rfl, hB, hbel⟩ := hcut
  have c0 : wc.cell? ⟨w.heap.size, 0, none⟩ = some s.path.v := hB.cell 0
  have c2 : wc.cell? ⟨w.heap.size, 2, none⟩ = some s.closers.v := hB.cell 2
  have c6 : wc.cell? ⟨w.heap.size, 6, none⟩ = some (.string s.word) := hB.cell 6
  have c13 : wc.cell? ⟨w.heap.size, 13, none⟩ = some s.name.v := hB.cell 13
  have c17 : wc.cell? ⟨w.heap.size, 17, none⟩ = some s.kept.v := hB.cell 17
  have HRc : Hid (RdS wc s.path.a C.path) := rds_below HR.out hbel
  have HBel : Hid (Below w.heap.size w wc) := hbel
  clear hB hbel HR
  by_cases h1 : lp ≤ 1048576
  case neg =>
    go_wp2_with fail
    go_ret
    exact ZZ_no HBel.out rfl
  by_cases h2 : s.path.n ≤ 1048576
  case neg =>
    go_wp2_with fail
    go_ret
    exact ZZ_no HBel.out rfl
  by_cases h3 : lp + s.path.n ≤ 1048576
  case neg =>
    go_wp2_with fail
    go_ret
    exact ZZ_no HBel.out rfl
  go_upto_block 0 with fail
  go_cut [7] (fun t wx => ∃ T : Nat, T ≤ 1048576 ∧ t = .int .i64 T ∧ wc = wx)
  case first =>
    go_wp2_with fail
    go_loop [7, 8] (fun t u => ∃ T k : Nat, T ≤ 1048576 ∧ k ≤ s.path.n ∧ t = .int .i64 T ∧ u = .int .i64 k) (fun _ u => s.path.n - (intOf u).toNat)
    case atStart => exact ⟨lp + s.path.n, 0, h3, Nat.zero_le _, by go_num, rfl⟩
    case round =>
      obtain ⟨T, k, hT, hk, rfl, rfl⟩ := hrel
      by_cases hlt : k < s.path.n
      · obtain ⟨b, off, hpa, hcell, _⟩ := rds_row HRc.out (k := k) (by rw [HN.out]; exact hlt)
        have c0' : wc.cell? ⟨w.heap.size, 0, none⟩ = some (.slice (some ⟨b, off, none⟩) s.path.n s.path.c) := by rw [c0]; unfold Sl.v; rw [hpa]
        clear c0 hpa
        generalize sat C.path k = x at hcell
        by_cases hx : x.size ≤ 1048576
        · by_cases hy : T + x.size ≤ 1048576
          · go_wp2_with fail
            go_round
            case rel => exact ⟨T + x.size, k + 1, hy, hlt, by go_num, by go_num⟩
            case measure => simp [intOf]; omega
          · go_wp2_with fail
            go_ret
            exact ZZ_no HBel.out rfl
        · go_wp2_with fail
          go_ret
          exact ZZ_no HBel.out rfl
      · go_wp2_with fail
        go_meet
        exact ⟨T, hT, rfl, rfl⟩
  case rest =>
  obtain ⟨T, hT, rfl, rfl⟩ := hcut
  clear c0
  by_cases a_closers : s.closers.n ≤ 1048576
  case neg =>
    go_wp2_with fail
    go_ret
    exact ZZ_no HBel.out rfl
  by_cases b_closers : T + s.closers.n ≤ 1048576
  case neg =>
    go_wp2_with fail
    go_ret
    exact ZZ_no HBel.out rfl
  by_cases a_word : s.word.size ≤ 1048576
  case neg =>
    go_wp2_with fail
    go_ret
    exact ZZ_no HBel.out rfl
  by_cases b_word : T + s.closers.n + s.word.size ≤ 1048576
  case neg =>
    go_wp2_with fail
    go_ret
    exact ZZ_no HBel.out rfl
  by_cases a_name : s.name.n ≤ 1048576
  case neg =>
    go_wp2_with fail
    go_ret
    exact ZZ_no HBel.out rfl
  by_cases b_name : T + s.closers.n + s.word.size + s.name.n ≤ 1048576
  case neg =>
    go_wp2_with fail
    go_ret
    exact ZZ_no HBel.out rfl
  by_cases a_kept : s.kept.n ≤ 1048576
  case neg =>
    go_wp2_with fail
    go_ret
    exact ZZ_no HBel.out rfl
  by_cases b_kept : T + s.closers.n + s.word.size + s.name.n + s.kept.n ≤ 1048576
  case neg =>
    go_wp2_with fail
    go_ret
    exact ZZ_no HBel.out rfl
  go_wp2_with fail
  go_ret
  exact ZZ_yes HBel.out rfl ⟨h1, h2, a_closers, a_name, a_kept⟩

set_option maxHeartbeats 2000000 in
set_option maxRecDepth 100000 in
theorem zzBytes31 (ap : Option Addr) (lp cp : Nat) (i : Int) (s : Str) (C : Con) (w : World) (hr : RdS w s.path.a C.path) (hn : C.path.length = s.path.n) (hlp : lp ≤ maxLen) (hcl : s.closers.n ≤ maxLen) (hnm : s.name.n ≤ maxLen) (hkp : s.kept.n ≤ maxLen) (hwd : s.word.size ≤ maxLen) :
    Calls Try.prog 31 #[.slice ap lp cp, .int .i64 i, .agg s.cells30] w fun e w' => ZZpost w lp s e w' := by
  have hpl : s.path.n ≤ maxLen := by have := hr.1; omega
  unfold maxLen at hlp hcl hnm hkp hwd hpl
  have HR : Hid (RdS w s.path.a C.path) := hr
  have HN : Hid (C.path.length = s.path.n) := hn
  clear hr hn
  go_enter Try.func31, Try.ntmps31
  go_upto_region 1 with fail
  go_cut [7] (fun t wx => t = .int .i64 0 ∧ Blk wx w.heap.size 30 s.cells30 ∧ Below w.heap.size w wx)
  case first =>
    go_wp2_with fail
    go_meet
    exact ⟨rfl, Blk.last w 30 _, (Below.refl _ _).alloc (Nat.le_refl _) _⟩
  case rest =>
  obtain ⟨rfl, hB, hbel⟩ := hcut
  have c0 : wc.cell? ⟨w.heap.size, 0, none⟩ = some s.path.v := hB.cell 0
  have c2 : wc.cell? ⟨w.heap.size, 2, none⟩ = some s.closers.v := hB.cell 2
  have c6 : wc.cell? ⟨w.heap.size, 6, none⟩ = some (.string s.word) := hB.cell 6
  have c13 : wc.cell? ⟨w.heap.size, 13, none⟩ = some s.name.v := hB.cell 13
  have c17 : wc.cell? ⟨w.heap.size, 17, none⟩ = some s.kept.v := hB.cell 17
  have HRc : Hid (RdS wc s.path.a C.path) := rds_below HR.out hbel
  have HBel : Hid (Below w.heap.size w wc) := hbel
  clear hB hbel HR
  by_cases h1 : lp ≤ 1048576
  case neg =>
    go_wp2_with fail
    go_ret
    exact ZZ_no HBel.out rfl
  by_cases h2 : s.path.n ≤ 1048576
  case neg =>
    go_wp2_with fail
    go_ret
    exact ZZ_no HBel.out rfl
  by_cases h3 : lp + s.path.n ≤ 1048576
  case neg =>
    go_wp2_with fail
    go_ret
    exact ZZ_no HBel.out rfl
  go_upto_block 0 with fail
  go_cut [7] (fun t wx => ∃ T : Nat, T ≤ 1048576 ∧ t = .int .i64 T ∧ wc = wx)
  case first =>
    go_wp2_with fail
    go_loop [7, 8] (fun t u => ∃ T k : Nat, T ≤ 1048576 ∧ k ≤ s.path.n ∧ t = .int .i64 T ∧ u = .int .i64 k) (fun _ u => s.path.n - (intOf u).toNat)
    case atStart => exact ⟨lp + s.path.n, 0, h3, Nat.zero_le _, by go_num, rfl⟩
    case round =>
      obtain ⟨T, k, hT, hk, rfl, rfl⟩ := hrel
      by_cases hlt : k < s.path.n
      · obtain ⟨b, off, hpa, hcell, _⟩ := rds_row HRc.out (k := k) (by rw [HN.out]; exact hlt)
        have c0' : wc.cell? ⟨w.heap.size, 0, none⟩ = some (.slice (some ⟨b, off, none⟩) s.path.n s.path.c) := by rw [c0]; unfold Sl.v; rw [hpa]
        clear c0 hpa
        generalize sat C.path k = x at hcell
        by_cases hx : x.size ≤ 1048576
        · by_cases hy : T + x.size ≤ 1048576
          · go_wp2_with fail
            go_round
            case rel => exact ⟨T + x.size, k + 1, hy, hlt, by go_num, by go_num⟩
            case measure => simp [intOf]; omega
          · go_wp2_with fail
            go_ret
            exact ZZ_no HBel.out rfl
        · go_wp2_with fail
          go_ret
          exact ZZ_no HBel.out rfl
      · go_wp2_with fail
        go_meet
        exact ⟨T, hT, rfl, rfl⟩
  case rest =>
  obtain ⟨T, hT, rfl, rfl⟩ := hcut
  clear c0
  by_cases a_closers : s.closers.n ≤ 1048576
  case neg =>
    go_wp2_with fail
    go_ret
    exact ZZ_no HBel.out rfl
  by_cases b_closers : T + s.closers.n ≤ 1048576
  case neg =>
    go_wp2_with fail
    go_ret
    exact ZZ_no HBel.out rfl
  by_cases a_word : s.word.size ≤ 1048576
  case neg =>
    go_wp2_with fail
    go_ret
    exact ZZ_no HBel.out rfl
  by_cases b_word : T + s.closers.n + s.word.size ≤ 1048576
  case neg =>
    go_wp2_with fail
    go_ret
    exact ZZ_no HBel.out rfl
  by_cases a_name : s.name.n ≤ 1048576
  case neg =>
    go_wp2_with fail
    go_ret
    exact ZZ_no HBel.out rfl
  by_cases b_name : T + s.closers.n + s.word.size + s.name.n ≤ 1048576
  case neg =>
    go_wp2_with fail
    go_ret
    exact ZZ_no HBel.out rfl
  by_cases a_kept : s.kept.n ≤ 1048576
  case neg =>
    go_wp2_with fail
    go_ret
    exact ZZ_no HBel.out rfl
  by_cases b_kept : T + s.closers.n + s.word.size + s.name.n + s.kept.n ≤ 1048576
  case neg =>
    go_wp2_with fail
    go_ret
    exact ZZ_no HBel.out rfl
  go_wp2_with fail
  go_ret
  exact ZZ_yes HBel.out rfl ⟨h1, h2, a_closers, a_name, a_kept⟩

end Go.Proofs.Qxb6602575a
