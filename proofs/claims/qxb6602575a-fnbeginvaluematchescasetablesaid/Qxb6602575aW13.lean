import Derived.Test.Qxb6602575aW10
namespace Go.Proofs.Qxb6602575a
open Go.RowKit

/-- The string at a place. -/
def sat (ss : List ByteArray) (k : Nat) : ByteArray := ss[k]?.getD ByteArray.empty

/-- A slice of strings that reads as the list ss. -/
def RdS (w : World) (ao : Option Addr) (ss : List ByteArray) : Prop :=
  ss.length ≤ maxLen ∧ (ss = [] ∨ ∃ b off, ao = some ⟨b, off, none⟩ ∧ ∀ i, i < ss.length → w.cell? ⟨b, off + i, none⟩ = some (.string (sat ss i)))

theorem rds_nil (w : World) (ao : Option Addr) : RdS w ao [] := ⟨Nat.zero_le _, .inl rfl⟩
theorem rds_row {w : World} {ao : Option Addr} {ss : List ByteArray} (h : RdS w ao ss) {k : Nat} (hk : k < ss.length) :
    ∃ b off, ao = some ⟨b, off, none⟩ ∧ w.cell? ⟨b, off + k, none⟩ = some (.string (sat ss k)) ∧ b < w.heap.size := by
  rcases h with ⟨_, rfl | ⟨b, off, rfl, hc⟩⟩
  · simp at hk
  · exact ⟨b, off, rfl, hc k hk, lt_of_cell (hc k hk)⟩
theorem rds_below {w w' : World} {ao : Option Addr} {ss : List ByteArray} (h : RdS w ao ss) (hb : Below w.heap.size w w') : RdS w' ao ss := by
  rcases h with ⟨hm, rfl | ⟨b, off, rfl, hc⟩⟩
  · exact ⟨hm, .inl rfl⟩
  · refine ⟨hm, .inr ⟨b, off, rfl, fun i hi => ?_⟩⟩
    rw [hb.cell (p := ⟨b, off + i, none⟩) (lt_of_cell (hc i hi))]
    exact hc i hi

def strs (ss : List ByteArray) : List Value := ss.map Value.string
theorem strs_length (ss : List ByteArray) : (strs ss).length = ss.length := by simp [strs]
theorem strs_get (ss : List ByteArray) (k : Nat) (h : k < ss.length) : (strs ss)[k]? = some (.string (sat ss k)) := by
  unfold strs sat; simp [h]
theorem rds_of_owns {w : World} {base : Nat} {ao : Option Addr} {n cap : Nat} {ss : List ByteArray} (h : w.ownsRow base 9 1 (.slice ao n cap) n (strs ss)) : RdS w ao ss := by
  have h' := h
  obtain ⟨hl, h | ⟨g, cap', cur, h1, h2, h3, h4, h5, h6, h7⟩⟩ := h
  · have : ss = [] := by have := strs_length ss; rw [hl, h.2] at this; exact List.length_eq_zero_iff.1 (by omega)
    subst this; exact ⟨Nat.zero_le _, .inl rfl⟩
  · have hz : ss.length = n := by have := strs_length ss; omega
    refine ⟨by omega, .inr ?_⟩
    simp at h1
    obtain ⟨rfl, rfl⟩ := h1
    refine ⟨g, 0, rfl, fun i hi => ?_⟩
    rw [Nat.zero_add, h'.cellAt i (by omega), strs_get ss i hi]

set_option maxHeartbeats 400000 in
theorem sameBytes_true (aa ab : Option Addr) (la ca lb cb : Nat) (xs : List Int) (w : World) (ha : Rd w aa xs) (hb : Rd w ab xs) (hla : xs.length = la) (hlb : xs.length = lb) :
    Calls Try.prog 42 #[.slice aa la ca, .slice ab lb cb] w fun e w' => e = .returned (.bool true) ∧ ∃ n, w' = w.drewN n := by
  have hm := ha.1
  unfold maxLen at hm
  subst hla
  subst hlb
  go_enter Try.func42, Try.ntmps42
  go_wp2_with fail
  go_loopw [5] (fun t wr => ∃ k n : Nat, k ≤ xs.length ∧ t = .int .i64 k ∧ wr = w.drewN n) (fun t _ => xs.length - (intOf t).toNat)
  case atStart => exact ⟨0, 0, Nat.zero_le _, rfl, rfl⟩
  case round =>
    obtain ⟨k, n, hk, rfl, rfl⟩ := hrel
    by_cases hlt : k < xs.length
    · obtain ⟨b, off, rfl, hca, _⟩ := rd_row ha hlt
      obtain ⟨b', off', rfl, hcb, _⟩ := rd_row hb hlt
      clear ha hb
      have hlt' : (k : Int) < (xs.length : Int) := by omega
      go_wp2_with fail
      go_quiet (fail)
      go_wp2_with fail
      go_roundw
      case rel => exact ⟨k + 1, n + nq, hlt, by go_num, rfl⟩
      case measure => simp [intOf]; omega
    · go_wp2_with fail
      go_ret
      exact ⟨rfl, n, rfl⟩

set_option maxHeartbeats 400000 in
theorem sameStrings_true (aa ab : Option Addr) (la ca lb cb : Nat) (xs : List ByteArray) (w : World) (ha : RdS w aa xs) (hb : RdS w ab xs) (hla : xs.length = la) (hlb : xs.length = lb) :
    Calls Try.prog 41 #[.slice aa la ca, .slice ab lb cb] w fun e w' => e = .returned (.bool true) ∧ ∃ n, w' = w.drewN n := by
  have hm := ha.1
  unfold maxLen at hm
  subst hla
  subst hlb
  go_enter Try.func41, Try.ntmps41
  go_wp2_with fail
  go_loopw [5] (fun t wr => ∃ k n : Nat, k ≤ xs.length ∧ t = .int .i64 k ∧ wr = w.drewN n) (fun t _ => xs.length - (intOf t).toNat)
  case atStart => exact ⟨0, 0, Nat.zero_le _, rfl, rfl⟩
  case round =>
    obtain ⟨k, n, hk, rfl, rfl⟩ := hrel
    by_cases hlt : k < xs.length
    · obtain ⟨b, off, rfl, hca, _⟩ := rds_row ha hlt
      obtain ⟨b', off', rfl, hcb, _⟩ := rds_row hb hlt
      clear ha hb
      have hlt' : (k : Int) < (xs.length : Int) := by omega
      go_wp2_with fail
      go_quiet (fail)
      go_wp2_with fail
      go_roundw
      case rel => exact ⟨k + 1, n + nq, hlt, by go_num, rfl⟩
      case measure => simp [intOf]; omega
    · go_wp2_with fail
      go_ret
      exact ⟨rfl, n, rfl⟩

theorem Try.info9 : (Try.prog.info? 9).map (fun i => (i.zero, i.size, i.bytes)) = some (some (.string ⟨#[]⟩), 1, 16) := by kernel_rfl

set_option maxHeartbeats 1000000 in
set_option maxRecDepth 100000 in
theorem cloneStrs_row (b off cap : Nat) (zs : List ByteArray) (w : World) (hz : zs.length ≤ 1099511627776)
    (hc : ∀ i, i < zs.length → w.cell? ⟨b, off + i, none⟩ = some (.string (sat zs i))) :
    Calls Try.prog 38 #[.slice (some ⟨b, off, none⟩) zs.length cap] w fun e w' => ∃ ao, e = .returned (.slice ao zs.length zs.length) ∧ w'.ownsRow w.heap.size 9 1 (.slice ao zs.length zs.length) zs.length (strs zs) ∧ Below w.heap.size w w' := by
  obtain ⟨i0, hi, hz0, hz1, hz2⟩ := info_parts Try.info9
  have he : ∀ w : World, (binOp .eql 28 (.slice (some ⟨b, off, none⟩) zs.length cap) (.slice none 0 0)).run Try.prog w = .ok (.bool false) w := fun _ => rfl
  go_enter Try.func38, Try.ntmps38
  go_wp2_with (at_make; refine wpList_make_full _ rfl _ _ 28 rfl w.heap.size 9 i0 (.string ⟨#[]⟩) 1 Try.underlying28 hi hz0 hz1 .i64 .i64 _ _ zs.length rfl rfl (by omega) (by omega) (by rw [hz2]; omega) (by unfold maxLen; omega) (Nat.le_refl _) ?_; intro w1 hown hgrow)
  have hown1 : w1.ownsRow w.heap.size 9 1 (.slice (some ⟨w.heap.size, 0, none⟩) zs.length zs.length) zs.length (mix (strs zs) (List.replicate zs.length (.string ⟨#[]⟩)) 0) := by
    rw [mix_zero]; simpa [Value.cells, toList_madeCells_one] using hown
  have hbel : Below w.heap.size w w1 := (Below.refl _ _).grown hgrow (Nat.le_refl _) (fun k h => by cases h)
  clear hown hgrow hi hz0 hz1 hz2 he
  go_loopw [4] (fun i wr => ∃ k : Nat, k ≤ zs.length ∧ i = .int .i64 k ∧ wr.ownsRow w.heap.size 9 1 (.slice (some ⟨w.heap.size, 0, none⟩) zs.length zs.length) zs.length (mix (strs zs) (List.replicate zs.length (.string ⟨#[]⟩)) k) ∧ Below w.heap.size w wr)
    (fun i _ => zs.length - (intOf i).toNat)
  case atStart => exact ⟨0, Nat.zero_le _, rfl, hown1, hbel⟩
  case round =>
    clear hown1 hbel
    obtain ⟨k, hk, rfl, hown, hbel⟩ := hrel
    by_cases hlt : k < zs.length
    · have hcell : wr.cell? ⟨b, off + k, none⟩ = some (.string (sat zs k)) := by
        have h := hc k hlt
        rw [hbel.cell (p := ⟨b, off + k, none⟩) (lt_of_cell h)]; exact h
      obtain ⟨⟨u, hu⟩, hfr⟩ := put_place hown hlt
      have HS : Hid (_) := put_step (Nat.le_refl _) hown (strs_length zs) (by simp) hlt (strs_get zs k hlt) hbel
      clear hown hbel
      go_wp2
      go_roundw
      case rel => exact ⟨k + 1, hlt, by go_num, HS.out.1, HS.out.2⟩
      case measure => simp [intOf]; omega
    · have hkz : k = zs.length := by omega
      subst hkz
      rw [mix_full _ _ _ (strs_length zs) (by simp)] at hown
      go_wp2
      go_ret
      exact ⟨_, rfl, hown, hbel⟩

set_option maxHeartbeats 1000000 in
set_option maxRecDepth 100000 in
theorem cloneStrs_empty (a : Addr) (cap : Nat) (w : World) :
    Calls Try.prog 38 #[.slice (some a) 0 cap] w fun e w' => ∃ ao, e = .returned (.slice ao 0 0) ∧ w'.ownsRow w.heap.size 9 1 (.slice ao 0 0) 0 [] ∧ Below w.heap.size w w' := by
  obtain ⟨i0, hi, hz0, hz1, hz2⟩ := info_parts Try.info9
  have he : ∀ w : World, (binOp .eql 28 (.slice (some a) 0 cap) (.slice none 0 0)).run Try.prog w = .ok (.bool false) w := fun _ => rfl
  go_enter Try.func38, Try.ntmps38
  go_wp2_with (at_make; refine wpList_make_full _ rfl _ _ 28 rfl w.heap.size 9 i0 (.string ⟨#[]⟩) 1 Try.underlying28 hi hz0 hz1 .i64 .i64 _ _ 0 rfl rfl (by omega) (by omega) (by rw [hz2]; omega) (by unfold maxLen; omega) (Nat.le_refl _) ?_; intro w1 hown hgrow)
  have hown1 : w1.ownsRow w.heap.size 9 1 (.slice (some ⟨w.heap.size, 0, none⟩) 0 0) 0 [] := by
    simpa [Value.cells, toList_madeCells_one] using hown
  have hbel : Below w.heap.size w w1 := (Below.refl _ _).grown hgrow (Nat.le_refl _) (fun k h => by cases h)
  clear hown hgrow hi hz0 hz1 hz2 he
  go_loop [4] (fun i => i = .int .i64 0) (fun _ => 0)
  case atStart => rfl
  case round =>
    subst hrel
    go_wp2
    go_ret
    exact ⟨_, rfl, hown1, hbel⟩

theorem cloneStrs_nil (w : World) :
    Calls Try.prog 38 #[.slice none 0 0] w fun e w' => ∃ ao, e = .returned (.slice ao 0 0) ∧ w'.ownsRow w.heap.size 9 1 (.slice ao 0 0) 0 [] ∧ Below w.heap.size w w' := by
  have he : ∀ w : World, (binOp .eql 28 (.slice none 0 0) (.slice none 0 0)).run Try.prog w = .ok (.bool true) w := fun _ => rfl
  go_enter Try.func38, Try.ntmps38
  go_wp2
  go_ret
  exact ⟨_, rfl, World.ownsRow_nil _ _ _ _, Below.refl _ _⟩

/-- jsb1CloneStrings. -/
theorem cloneStrs_any (ao : Option Addr) (len cap : Nat) (zs : List ByteArray) (w : World) (h : RdS w ao zs) (hl : zs.length = len) (hn : ao = none → cap = 0) (hz : len ≤ 1099511627776) :
    Calls Try.prog 38 #[.slice ao len cap] w fun e w' => ∃ ao', e = .returned (.slice ao' len len) ∧ w'.ownsRow w.heap.size 9 1 (.slice ao' len len) len (strs zs) ∧ Below w.heap.size w w' := by
  subst hl
  rcases h with ⟨hm, rfl | ⟨b, off, rfl, hc⟩⟩
  · cases ao with
    | none => rw [hn rfl]; exact cloneStrs_nil w
    | some a => exact cloneStrs_empty a cap w
  · exact cloneStrs_row b off cap zs w hz hc
end Go.Proofs.Qxb6602575a
