import Derived.Test.Qxb6602575aW16
namespace Go.Proofs.Qxb6602575a
open Go.RowKit

/-- jsb1StreamBytes answers some number. -/
def SBpost (w : World) (e : Ending) (w' : World) : Prop := ∃ n : Int, e = .returned (.int .i64 n) ∧ Below w.heap.size w w'
theorem SB_any {w w' : World} {e : Ending} (n : Int) (he : e = .returned (.int .i64 n)) (h : Below w.heap.size w w') : SBpost w e w' := ⟨n, he, h⟩

set_option maxHeartbeats 2000000 in
set_option maxRecDepth 100000 in
theorem streamBytes_any (s : Str) (C : Con) (w : World) (hr : RdS w s.path.a C.path) (hn : C.path.length = s.path.n) (hcl : s.closers.n ≤ maxLen) (hnm : s.name.n ≤ maxLen) (hkp : s.kept.n ≤ maxLen) (hwd : s.word.size ≤ maxLen) :
    Calls Try.prog 17 #[.agg s.cells30] w fun e w' => SBpost w e w' := by
  have hpl : s.path.n ≤ maxLen := by have := hr.1; omega
  unfold maxLen at hcl hnm hkp hwd hpl
  have HR : Hid (RdS w s.path.a C.path) := hr
  have HN : Hid (C.path.length = s.path.n) := hn
  clear hr hn
  go_enter Try.func17, Try.ntmps17
  go_upto_region 1 with fail
  go_cut [3] (fun t wx => t = .int .i64 1048577 ∧ Blk wx w.heap.size 30 s.cells30 ∧ Below w.heap.size w wx)
  case first =>
    go_wp2_with fail
    go_meet
    exact ⟨rfl, Blk.last w 30 _, (Below.refl _ _).alloc (Nat.le_refl _) _⟩
  case rest =>
  obtain ⟨rfl, hB, hbel⟩ := hcut
  have c0 : wc.cell? ⟨w.heap.size, 0, none⟩ = some s.path.v := hB.cell 0
  have c2 : wc.cell? ⟨w.heap.size, 2, none⟩ = some s.closers.v := hB.cell 2
  have c6 : wc.cell? ⟨w.heap.size, 6, none⟩ = some (.string s.word) := hB.cell 6
  have c13 : wc.cell? ⟨w.heap.size, 13, none⟩ = some s.name.v := hB.cell 13
  have c17 : wc.cell? ⟨w.heap.size, 17, none⟩ = some s.kept.v := hB.cell 17
  have HRc : Hid (RdS wc s.path.a C.path) := rds_below HR.out hbel
  have HBel : Hid (Below w.heap.size w wc) := hbel
  clear hB hbel HR
  go_upto_region 2 with fail
  go_cut [33] (fun t wx => ∃ b : Bool, t = .bool b ∧ (b = false → s.path.n ≤ 65536 ∧ s.closers.n ≤ 1048576 ∧ s.kept.n ≤ 1048576 ∧ s.name.n ≤ 1048576 ∧ s.word.size ≤ 1048576) ∧ wc = wx)
  case first =>
    by_cases h1 : s.path.n ≤ 65536
    case neg =>
      go_wp2_with fail
      go_meet
      exact ⟨true, rfl, (fun h => by cases h), rfl⟩
    by_cases h2 : s.closers.n ≤ 1048576
    case neg =>
      go_wp2_with fail
      go_meet
      exact ⟨true, rfl, (fun h => by cases h), rfl⟩
    by_cases h3 : s.kept.n ≤ 1048576
    case neg =>
      go_wp2_with fail
      go_meet
      exact ⟨true, rfl, (fun h => by cases h), rfl⟩
    by_cases h4 : s.name.n ≤ 1048576
    case neg =>
      go_wp2_with fail
      go_meet
      exact ⟨true, rfl, (fun h => by cases h), rfl⟩
    by_cases h5 : s.word.size ≤ 1048576
    case neg =>
      go_wp2_with fail
      go_meet
      exact ⟨true, by simp; omega, (fun h => by cases h), rfl⟩
    go_wp2_with fail
    go_meet
    exact ⟨false, by simp; omega, fun _ => ⟨h1, h2, h3, h4, h5⟩, rfl⟩
  case rest =>
  obtain ⟨b, rfl, hb, rfl⟩ := hcut
  cases b with
  | true =>
    clear hb
    go_wp2_with fail
    go_ret
    exact SB_any _ rfl HBel.out
  | false =>
    obtain ⟨h1, h2, h3, h4, h5⟩ := hb rfl
    clear hb
    go_wp2_with fail
    go_loop [4, 5] (fun t u => ∃ T k : Nat, T ≤ 16777216 ∧ k ≤ s.path.n ∧ t = .int .i64 T ∧ u = .int .i64 k) (fun _ u => s.path.n - (intOf u).toNat)
    case atStart => exact ⟨16 * s.path.n + s.closers.n + s.kept.n + s.name.n + s.word.size, 0, by omega, Nat.zero_le _, by go_num, rfl⟩
    case round =>
      obtain ⟨T, k, hT, hk, rfl, rfl⟩ := hrel
      by_cases hlt : k < s.path.n
      · obtain ⟨b, off, hpa, hcell, _⟩ := rds_row HRc.out (k := k) (by rw [HN.out]; exact hlt)
        have c0' : wc.cell? ⟨w.heap.size, 0, none⟩ = some (.slice (some ⟨b, off, none⟩) s.path.n s.path.c) := by rw [c0]; unfold Sl.v; rw [hpa]
        clear c0 hpa
        generalize sat C.path k = x at hcell
        by_cases hy : T ≤ 1048576
        · by_cases hx : x.size ≤ 1048576
          · go_wp2_with fail
            go_round
            case rel => exact ⟨T + x.size, k + 1, by omega, hlt, by go_num, by go_num⟩
            case measure => simp [intOf]; omega
          · go_wp2_with fail
            go_ret
            exact SB_any _ rfl HBel.out
        · go_wp2_with fail
          go_ret
          exact SB_any _ rfl HBel.out
      · go_wp2_with fail
        all_goals go_ret
        all_goals exact SB_any _ rfl HBel.out
end Go.Proofs.Qxb6602575a
