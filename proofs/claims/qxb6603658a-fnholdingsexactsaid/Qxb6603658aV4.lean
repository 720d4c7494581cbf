import Derived.Test.Qxb6603658aV1
import Derived.Deep.DeepCutAuto
import Derived.Deep.CutBlock
namespace Go.Proofs.Qxb6603658a
open Go.RowKit

/-- What a check of lengths answers: some bool. -/
def ZB (w : World) (e : Ending) (w' : World) : Prop := ∃ b, e = .returned (.bool b) ∧ w' = w
theorem ZB_any {w w' : World} {e : Ending} (b : Bool) (he : e = .returned (.bool b)) (h : w' = w) : ZB w e w' := ⟨b, he, h⟩

set_option maxHeartbeats 1000000 in
set_option maxRecDepth 100000 in
theorem zzBytes5 (ad am : Option Addr) (cd cm : Nat) (ds ms : List ByteArray) (w : World) (hd : RdS w ad ds) (hm : RdS w am ms) (zd : ∀ k, k < ds.length → (sat ds k).size ≤ maxLen) (zm : ∀ k, k < ms.length → (sat ms k).size ≤ maxLen) :
    Calls Try.prog 5 #[.slice ad ds.length cd, .slice am ms.length cm] w fun e w' => ZB w e w' := by
  have hl1 := hd.1
  have hl2 := hm.1
  have HD : Hid (RdS w ad ds) := hd
  have HM : Hid (RdS w am ms) := hm
  have ZD : Hid (∀ k, k < ds.length → (sat ds k).size ≤ maxLen) := zd
  have ZM : Hid (∀ k, k < ms.length → (sat ms k).size ≤ maxLen) := zm
  clear hd hm zd zm
  unfold maxLen at hl1 hl2
  go_enter Try.func5, Try.ntmps5
  by_cases h1 : ds.length ≤ 1048576
  case neg =>
    go_wp2_with fail
    go_ret
    exact ZB_any _ rfl rfl
  go_upto_block 0 with fail
  go_cut [5] (fun t wx => ∃ T : Nat, T ≤ 1048576 ∧ t = .int .i64 T ∧ w = wx)
  case first =>
    go_wp2_with fail
    go_loop [5, 6] (fun t u => ∃ T k : Nat, T ≤ 1048576 ∧ k ≤ ds.length ∧ t = .int .i64 T ∧ u = .int .i64 k) (fun _ u => ds.length - (intOf u).toNat)
    case atStart => exact ⟨ds.length, 0, h1, Nat.zero_le _, by go_num, rfl⟩
    case round =>
      obtain ⟨T, k, hT, hk, rfl, rfl⟩ := hrel
      by_cases hlt : k < ds.length
      · obtain ⟨b, off, rfl, hcell, _⟩ := rds_row HD.out hlt
        have hx0 := ZD.out k hlt
        unfold maxLen at hx0
        generalize sat ds k = x at hcell hx0
        by_cases hx : x.size ≤ 1048576
        · by_cases hy : T + x.size ≤ 1048576
          · go_wp2_with fail
            go_round
            case rel => exact ⟨T + x.size, k + 1, hy, hlt, by go_num, by go_num⟩
            case measure => simp [intOf]; omega
          · go_wp2_with fail
            go_ret
            exact ZB_any _ rfl rfl
        · go_wp2_with fail
          go_ret
          exact ZB_any _ rfl rfl
      · go_wp2_with fail
        go_meet
        exact ⟨T, hT, rfl, rfl⟩
  case rest =>
  obtain ⟨T, hT, rfl, rfl⟩ := hcut
  by_cases h2 : ms.length ≤ 1048576
  case neg =>
    go_wp2_with fail
    go_ret
    exact ZB_any _ rfl rfl
  by_cases h3 : T + ms.length ≤ 1048576
  case neg =>
    go_wp2_with fail
    go_ret
    exact ZB_any _ rfl rfl
  go_wp2_with fail
  go_loop [5, 7] (fun t u => ∃ T k : Nat, T ≤ 1048576 ∧ k ≤ ms.length ∧ t = .int .i64 T ∧ u = .int .i64 k) (fun _ u => ms.length - (intOf u).toNat)
  case atStart => exact ⟨T + ms.length, 0, h3, Nat.zero_le _, by go_num, rfl⟩
  case round =>
    obtain ⟨T, k, hT, hk, rfl, rfl⟩ := hrel
    by_cases hlt : k < ms.length
    · obtain ⟨b, off, rfl, hcell, _⟩ := rds_row HM.out hlt
      have hx0 := ZM.out k hlt
      unfold maxLen at hx0
      generalize sat ms k = x at hcell hx0
      by_cases hx : x.size ≤ 1048576
      · by_cases hy : T + x.size ≤ 1048576
        · go_wp2_with fail
          go_round
          case rel => exact ⟨T + x.size, k + 1, hy, hlt, by go_num, by go_num⟩
          case measure => simp [intOf]; omega
        · go_wp2_with fail
          go_ret
          exact ZB_any _ rfl rfl
      · go_wp2_with fail
        go_ret
        exact ZB_any _ rfl rfl
    · go_wp2_with fail
      go_ret
      exact ZB_any _ rfl rfl

set_option maxHeartbeats 1000000 in
set_option maxRecDepth 100000 in
theorem zzBytes12 (ad am : Option Addr) (cd cm : Nat) (ds ms : List ByteArray) (w : World) (hd : RdS w ad ds) (hm : RdS w am ms) (zd : ∀ k, k < ds.length → (sat ds k).size ≤ maxLen) (zm : ∀ k, k < ms.length → (sat ms k).size ≤ maxLen) :
    Calls Try.prog 12 #[.slice ad ds.length cd, .slice am ms.length cm] w fun e w' => ZB w e w' := by
  have hl1 := hd.1
  have hl2 := hm.1
  have HD : Hid (RdS w ad ds) := hd
  have HM : Hid (RdS w am ms) := hm
  have ZD : Hid (∀ k, k < ds.length → (sat ds k).size ≤ maxLen) := zd
  have ZM : Hid (∀ k, k < ms.length → (sat ms k).size ≤ maxLen) := zm
  clear hd hm zd zm
  unfold maxLen at hl1 hl2
  go_enter Try.func12, Try.ntmps12
  by_cases h1 : ds.length ≤ 1048576
  case neg =>
    go_wp2_with fail
    go_ret
    exact ZB_any _ rfl rfl
  go_upto_block 0 with fail
  go_cut [5] (fun t wx => ∃ T : Nat, T ≤ 1048576 ∧ t = .int .i64 T ∧ w = wx)
  case first =>
    go_wp2_with fail
    go_loop [5, 6] (fun t u => ∃ T k : Nat, T ≤ 1048576 ∧ k ≤ ds.length ∧ t = .int .i64 T ∧ u = .int .i64 k) (fun _ u => ds.length - (intOf u).toNat)
    case atStart => exact ⟨ds.length, 0, h1, Nat.zero_le _, by go_num, rfl⟩
    case round =>
      obtain ⟨T, k, hT, hk, rfl, rfl⟩ := hrel
      by_cases hlt : k < ds.length
      · obtain ⟨b, off, rfl, hcell, _⟩ := rds_row HD.out hlt
        have hx0 := ZD.out k hlt
        unfold maxLen at hx0
        generalize sat ds k = x at hcell hx0
        by_cases hx : x.size ≤ 1048576
        · by_cases hy : T + x.size ≤ 1048576
          · go_wp2_with fail
            go_round
            case rel => exact ⟨T + x.size, k + 1, hy, hlt, by go_num, by go_num⟩
            case measure => simp [intOf]; omega
          · go_wp2_with fail
            go_ret
            exact ZB_any _ rfl rfl
        · go_wp2_with fail
          go_ret
          exact ZB_any _ rfl rfl
      · go_wp2_with fail
        go_meet
        exact ⟨T, hT, rfl, rfl⟩
  case rest =>
  obtain ⟨T, hT, rfl, rfl⟩ := hcut
  by_cases h2 : ms.length ≤ 1048576
  case neg =>
    go_wp2_with fail
    go_ret
    exact ZB_any _ rfl rfl
  by_cases h3 : T + ms.length ≤ 1048576
  case neg =>
    go_wp2_with fail
    go_ret
    exact ZB_any _ rfl rfl
  go_wp2_with fail
  go_loop [5, 7] (fun t u => ∃ T k : Nat, T ≤ 1048576 ∧ k ≤ ms.length ∧ t = .int .i64 T ∧ u = .int .i64 k) (fun _ u => ms.length - (intOf u).toNat)
  case atStart => exact ⟨T + ms.length, 0, h3, Nat.zero_le _, by go_num, rfl⟩
  case round =>
    obtain ⟨T, k, hT, hk, rfl, rfl⟩ := hrel
    by_cases hlt : k < ms.length
    · obtain ⟨b, off, rfl, hcell, _⟩ := rds_row HM.out hlt
      have hx0 := ZM.out k hlt
      unfold maxLen at hx0
      generalize sat ms k = x at hcell hx0
      by_cases hx : x.size ≤ 1048576
      · by_cases hy : T + x.size ≤ 1048576
        · go_wp2_with fail
          go_round
          case rel => exact ⟨T + x.size, k + 1, hy, hlt, by go_num, by go_num⟩
          case measure => simp [intOf]; omega
        · go_wp2_with fail
          go_ret
          exact ZB_any _ rfl rfl
      · go_wp2_with fail
        go_ret
        exact ZB_any _ rfl rfl
    · go_wp2_with fail
      go_ret
      exact ZB_any _ rfl rfl

end Go.Proofs.Qxb6603658a
