import Derived.Test.Qxb6603658aV0
import Derived.Test.Qxb6603658aV1
namespace Go.Proofs.Qxb6603658a
open Go.RowKit

theorem sat_get' (ss : List ByteArray) (k : Nat) (h : k < ss.length) : ss[k]? = some (sat ss k) := by unfold sat; simp [h]
theorem drop_sat (ss : List ByteArray) (k : Nat) (h : k < ss.length) : ss.drop k = sat ss k :: ss.drop (k + 1) := by
  rw [List.drop_eq_getElem_cons h]; unfold sat; simp [h]
theorem take_sat (ss : List ByteArray) (k : Nat) (h : k < ss.length) : ss.take (k + 1) = ss.take k ++ [sat ss k] := by
  rw [List.take_add_one, sat_get' ss k h]; rfl

theorem str_ne {a b : ByteArray} (h : ¬ a = b) : (a.toList == b.toList) = false := by
  rw [beq_eq_false_iff_ne, ByteArray.toList_eq, ByteArray.toList_eq]
  exact fun e => h (WideShapes.bytes_inj e)
theorem str_eq {a b : ByteArray} (h : a = b) : (a.toList == b.toList) = true := by subst h; simp

def LI (w : World) (ss : List ByteArray) (x : ByteArray) (e : Ending) (w' : World) : Prop :=
  w' = w ∧ ((Pl.last ss x = none ∧ e = .returned (.int .i64 (-1))) ∨ ∃ k : Nat, Pl.last ss x = some k ∧ e = .returned (.int .i64 k))
theorem LI_no {w w' : World} {ss : List ByteArray} {x : ByteArray} {e : Ending} (hw : w' = w) (he : e = .returned (.int .i64 (-1))) (h : x ∉ ss) : LI w ss x e w' := ⟨hw, .inl ⟨Pl.last_none.2 h, he⟩⟩
theorem LI_yes {w w' : World} {ss : List ByteArray} {x : ByteArray} {e : Ending} (k : Nat) (hw : w' = w) (he : e = .returned (.int .i64 k)) (h1 : ss[k]? = some x) (h2 : x ∉ ss.drop (k + 1)) : LI w ss x e w' := ⟨hw, .inr ⟨k, Pl.last_some.2 ⟨h1, h2⟩, he⟩⟩

set_option maxHeartbeats 1000000 in
theorem lastIndex_any (ao : Option Addr) (cap : Nat) (ss : List ByteArray) (x : ByteArray) (w : World) (h : RdS w ao ss) :
    Calls Try.prog 11 #[.slice ao ss.length cap, .string x] w fun e w' => LI w ss x e w' := by
  have hl1 := h.1
  unfold maxLen at hl1
  have HD : Hid (RdS w ao ss) := h
  clear h
  go_enter Try.func11, Try.ntmps11
  go_wp2_with fail
  go_loop [5] (fun t => ∃ k : Nat, k ≤ ss.length ∧ t = .int .i64 ((k : Int) - 1) ∧ x ∉ ss.drop k) (fun t => (intOf t + 1).toNat)
  case atStart => exact ⟨ss.length, Nat.le_refl _, rfl, by simp⟩
  case round =>
    obtain ⟨k, hk, rfl, hx⟩ := hrel
    have HX : Hid (x ∉ ss.drop k) := hx
    clear hx
    cases k with
    | zero =>
      go_wp2_with fail
      go_ret
      exact LI_no rfl rfl HX.out
    | succ k =>
      have e1 : ((k + 1 : Nat) : Int) - 1 = (k : Int) := by omega
      rw [e1]
      obtain ⟨b, off, rfl, hcell, hbl⟩ := rds_row HD.out hk
      by_cases hs : sat ss k = x
      · subst hs
        go_wp2_with fail
        go_ret
        exact LI_yes k rfl rfl (sat_get' ss k hk) HX.out
      · have hb := str_ne hs
        have HN : Hid (x ∉ ss.drop k) := by
          show x ∉ _
          rw [drop_sat ss k hk]
          intro hm
          rcases List.mem_cons.1 hm with h | h
          · exact hs h.symm
          · exact HX.out h
        clear hs
        go_wp2_with fail
        go_round
        case rel => exact ⟨k, by omega, rfl, HN.out⟩
        case measure => simp [intOf]

def FI (w : World) (ss : List ByteArray) (x : ByteArray) (e : Ending) (w' : World) : Prop :=
  w' = w ∧ ((x ∉ ss ∧ e = .returned (.int .i64 (-1))) ∨ ∃ k : Nat, ss[k]? = some x ∧ x ∉ ss.take k ∧ e = .returned (.int .i64 k))
theorem FI_no {w w' : World} {ss : List ByteArray} {x : ByteArray} {e : Ending} (hw : w' = w) (he : e = .returned (.int .i64 (-1))) (h : x ∉ ss) : FI w ss x e w' := ⟨hw, .inl ⟨h, he⟩⟩
theorem FI_yes {w w' : World} {ss : List ByteArray} {x : ByteArray} {e : Ending} (k : Nat) (hw : w' = w) (he : e = .returned (.int .i64 k)) (h1 : ss[k]? = some x) (h2 : x ∉ ss.take k) : FI w ss x e w' := ⟨hw, .inr ⟨k, h1, h2, he⟩⟩

set_option maxHeartbeats 1000000 in
theorem firstIndex_any (ao : Option Addr) (cap : Nat) (ss : List ByteArray) (x : ByteArray) (w : World) (h : RdS w ao ss) :
    Calls Try.prog 14 #[.slice ao ss.length cap, .string x] w fun e w' => FI w ss x e w' := by
  have hl1 := h.1
  unfold maxLen at hl1
  have HD : Hid (RdS w ao ss) := h
  clear h
  go_enter Try.func14, Try.ntmps14
  go_wp2_with fail
  go_loop [5] (fun t => ∃ k : Nat, k ≤ ss.length ∧ t = .int .i64 k ∧ x ∉ ss.take k) (fun t => ss.length - (intOf t).toNat)
  case atStart => exact ⟨0, Nat.zero_le _, rfl, by simp⟩
  case round =>
    obtain ⟨k, hk, rfl, hx⟩ := hrel
    have HX : Hid (x ∉ ss.take k) := hx
    clear hx
    by_cases hlt : k < ss.length
    · obtain ⟨b, off, rfl, hcell, hbl⟩ := rds_row HD.out hlt
      by_cases hs : sat ss k = x
      · subst hs
        go_wp2_with fail
        go_ret
        exact FI_yes k rfl rfl (sat_get' ss k hlt) HX.out
      · have hb := str_ne hs
        have HN : Hid (x ∉ ss.take (k + 1)) := by
          show x ∉ _
          rw [take_sat ss k hlt]
          intro hm
          rcases List.mem_append.1 hm with h | h
          · exact HX.out h
          · exact hs (List.mem_singleton.1 h).symm
        clear hs
        go_wp2_with fail
        go_round
        case rel => exact ⟨k + 1, hlt, by go_num, HN.out⟩
        case measure => simp [intOf]; omega
    · have hkz : k = ss.length := by omega
      have HN : Hid (x ∉ ss) := by
        show x ∉ _
        have := HX.out
        rwa [hkz, List.take_length] at this
      go_wp2_with fail
      go_ret
      exact FI_no rfl rfl HN.out

theorem first_here {ss : List ByteArray} {k q : Nat} (hk : k < ss.length) (h1 : ss[q]? = some (sat ss k)) (h2 : sat ss k ∉ ss.take q) : q ≤ k ∧ (q = k → sat ss k ∉ ss.take k) ∧ (q < k → sat ss k ∈ ss.take k) := by
  refine ⟨?_, fun e => by subst e; exact h2, fun hq => ?_⟩
  · apply Nat.le_of_not_lt
    intro hq
    apply h2
    exact List.mem_of_getElem? (i := k) (by rw [List.getElem?_take_of_lt hq]; exact sat_get' ss k hk)
  · exact List.mem_of_getElem? (i := q) (by rw [List.getElem?_take_of_lt hq]; exact h1)

theorem dsz_in1 {ds : List ByteArray} {k : Nat} (hk : k < ds.length) (h : sat ds k ∈ ds.take k) : Pl.dsz (ds.take (k + 1)) = Pl.dsz (ds.take k) := by
  rw [Pl.dsz_take ds k hk]
  have e : ds[k] = sat ds k := by unfold sat; simp [hk]
  rw [e, if_pos h]; rfl
theorem dsz_out1 {ds : List ByteArray} {k : Nat} (hk : k < ds.length) (h : sat ds k ∉ ds.take k) : Pl.dsz (ds.take (k + 1)) = Pl.dsz (ds.take k) + 1 := by
  rw [Pl.dsz_take ds k hk]
  have e : ds[k] = sat ds k := by unfold sat; simp [hk]
  rw [e, if_neg h]
theorem dsz_in2 {ds ms : List ByteArray} {k : Nat} (hk : k < ms.length) (h : sat ms k ∈ ds ++ ms.take k) : Pl.dsz (ds ++ ms.take (k + 1)) = Pl.dsz (ds ++ ms.take k) := by
  rw [Pl.dsz_take2 ds ms k hk]
  have e : ms[k] = sat ms k := by unfold sat; simp [hk]
  rw [e, if_pos h]; rfl
theorem dsz_out2 {ds ms : List ByteArray} {k : Nat} (hk : k < ms.length) (h : sat ms k ∉ ds ++ ms.take k) : Pl.dsz (ds ++ ms.take (k + 1)) = Pl.dsz (ds ++ ms.take k) + 1 := by
  rw [Pl.dsz_take2 ds ms k hk]
  have e : ms[k] = sat ms k := by unfold sat; simp [hk]
  rw [e, if_neg h]

set_option maxHeartbeats 1000000 in
theorem distinct_any (ad am : Option Addr) (cd cm : Nat) (ds ms : List ByteArray) (w : World) (hd : RdS w ad ds) (hm : RdS w am ms) (ld : ds.length ≤ 4096) (lm : ms.length ≤ 4096) :
    Calls Try.prog 9 #[.slice ad ds.length cd, .slice am ms.length cm] w fun e w' => e = .returned (.int .i64 (Pl.dsz (ds ++ ms) : Nat)) ∧ w' = w := by
  have HD : Hid (RdS w ad ds) := hd
  have HMm : Hid (RdS w am ms) := hm
  clear hd hm
  go_enter Try.func9, Try.ntmps9
  go_wp2_with fail
  go_loop [5, 6] (fun t u => ∃ k : Nat, k ≤ ds.length ∧ t = .int .i64 (Pl.dsz (ds.take k) : Nat) ∧ u = .int .i64 k) (fun _ u => ds.length - (intOf u).toNat)
  case atStart => exact ⟨0, Nat.zero_le _, rfl, rfl⟩
  case round =>
    obtain ⟨k, hk, rfl, rfl⟩ := hrel
    have hle : Pl.dsz (ds.take k) ≤ 4096 := by have := Pl.dsz_le (ds.take k); simp at this; omega
    by_cases hlt : k < ds.length
    · obtain ⟨b, off, rfl, hcell, hbl⟩ := rds_row HD.out hlt
      go_wp2_with fail
      refine (firstIndex_any _ cd ds (sat ds k) _ HD.out).mono ?_
      rintro e w1 ⟨hw, ⟨hno, _⟩ | ⟨q, h1, h2, rfl⟩⟩
      · exact absurd (List.mem_of_getElem? (sat_get' ds k hlt)) hno
      · replace hw := hw.symm
        subst hw
        obtain ⟨hq, hq1, hq2⟩ := first_here hlt h1 h2
        clear h1 h2
        by_cases hqk : q = k
        · have hb : ((q : Int) == (k : Int)) = true := by rw [beq_iff_eq]; omega
          have HE : Hid (Pl.dsz (ds.take (k + 1)) = Pl.dsz (ds.take k) + 1) := dsz_out1 hlt (hq1 hqk)
          clear hqk hq1 hq2
          go_wp2_with fail
          go_round
          case rel => exact ⟨k + 1, hlt, by rw [HE.out]; go_num, by go_num⟩
          case measure => simp [intOf]; omega
        · have hb : ((q : Int) == (k : Int)) = false := by rw [beq_eq_false_iff_ne]; omega
          have HE : Hid (Pl.dsz (ds.take (k + 1)) = Pl.dsz (ds.take k)) := dsz_in1 hlt (hq2 (by omega))
          clear hqk hq1 hq2
          go_wp2_with fail
          go_round
          case rel => exact ⟨k + 1, hlt, by rw [HE.out], by go_num⟩
          case measure => simp [intOf]; omega
    · have hkz : k = ds.length := by omega
      subst hkz
      rw [List.take_length] at hle ⊢
      go_wp2_with fail
      go_loop [5, 7] (fun t u => ∃ k : Nat, k ≤ ms.length ∧ t = .int .i64 (Pl.dsz (ds ++ ms.take k) : Nat) ∧ u = .int .i64 k) (fun _ u => ms.length - (intOf u).toNat)
      case atStart => exact ⟨0, Nat.zero_le _, by rw [List.take_zero, List.append_nil], rfl⟩
      case round =>
        clear hle hlt
        obtain ⟨k, hk, rfl, rfl⟩ := hrel
        have hle : Pl.dsz (ds ++ ms.take k) ≤ 8192 := by have := Pl.dsz_le (ds ++ ms.take k); simp at this; omega
        by_cases hlt : k < ms.length
        · obtain ⟨b, off, rfl, hcell, hbl⟩ := rds_row HMm.out hlt
          go_wp2_with fail
          refine (firstIndex_any _ cm ms (sat ms k) _ HMm.out).mono ?_
          rintro e w1 ⟨hw, ⟨hno, _⟩ | ⟨q, h1, h2, rfl⟩⟩
          · exact absurd (List.mem_of_getElem? (sat_get' ms k hlt)) hno
          · replace hw := hw.symm
            subst hw
            obtain ⟨hq, hq1, hq2⟩ := first_here hlt h1 h2
            clear h1 h2
            by_cases hqk : q = k
            · have hb : ((q : Int) == (k : Int)) = true := by rw [beq_iff_eq]; omega
              have HO : Hid (sat ms k ∉ ms.take k) := hq1 hqk
              clear hqk hq1 hq2
              go_wp2_with fail
              refine (firstIndex_any _ cd ds (sat ms k) _ HD.out).mono ?_
              rintro e w1 ⟨hw, ⟨hno, rfl⟩ | ⟨q2, h1, _, rfl⟩⟩
              · replace hw := hw.symm
                subst hw
                have HE : Hid (Pl.dsz (ds ++ ms.take (k + 1)) = Pl.dsz (ds ++ ms.take k) + 1) := dsz_out2 hlt (fun hm => (List.mem_append.1 hm).elim hno HO.out)
                clear hno
                go_wp2_with fail
                go_round
                case rel => exact ⟨k + 1, hlt, by rw [HE.out]; go_num, by go_num⟩
                case measure => simp [intOf]; omega
              · replace hw := hw.symm
                subst hw
                have HE : Hid (Pl.dsz (ds ++ ms.take (k + 1)) = Pl.dsz (ds ++ ms.take k)) := dsz_in2 hlt (List.mem_append.2 (.inl (List.mem_of_getElem? h1)))
                clear h1
                go_wp2_with fail
                go_round
                case rel => exact ⟨k + 1, hlt, by rw [HE.out], by go_num⟩
                case measure => simp [intOf]; omega
            · have hb : ((q : Int) == (k : Int)) = false := by rw [beq_eq_false_iff_ne]; omega
              have HE : Hid (Pl.dsz (ds ++ ms.take (k + 1)) = Pl.dsz (ds ++ ms.take k)) := dsz_in2 hlt (List.mem_append.2 (.inr (hq2 (by omega))))
              clear hqk hq1 hq2
              go_wp2_with fail
              go_round
              case rel => exact ⟨k + 1, hlt, by rw [HE.out], by go_num⟩
              case measure => simp [intOf]; omega
        · have hkz : k = ms.length := by omega
          subst hkz
          rw [List.take_length]
          go_wp2_with fail
          go_ret
          exact ⟨rfl, rfl⟩
end Go.Proofs.Qxb6603658a
