import Derived.Test.Qxb6603658aRows
import Derived.WalkKit
import Derived.Below
import Derived.OwnWalk
namespace Go.Proofs.Qxb6603658a
open Go.RowKit

/-- A copy that has come to place k. -/
def mix {α : Type} (l r : List α) (k : Nat) : List α := l.take k ++ r.drop k
theorem mix_zero {α : Type} (l r : List α) : mix l r 0 = r := by simp [mix]
theorem mix_full {α : Type} (l r : List α) (k : Nat) (hl : l.length = k) (hr : r.length = k) : mix l r k = l := by
  unfold mix; rw [List.take_of_length_le (by omega), List.drop_of_length_le (by omega)]; simp
theorem mix_set {α : Type} (l r : List α) (k : Nat) (hl : k < l.length) (hr : k < r.length) (v : α) (hv : l[k]? = some v) : (mix l r k).set k v = mix l r (k + 1) := by
  unfold mix
  have e : (List.take k l).length = k := by simp; omega
  rw [List.set_append_right _ _ (by omega), e, Nat.sub_self, List.drop_eq_getElem_cons hr, List.set_cons_zero, List.take_add_one, hv]
  simp

theorem owns_below {w w' : World} {base e size : Nat} {v : Value} {n : Nat} {xs : List Value} (h : w.ownsRow base e size v n xs) (hb : Below w.heap.size w w') : w'.ownsRow base e size v n xs := by
  obtain ⟨hl, h | ⟨g, cap, cur, h1, h2, h3, h4, h5, h6, h7⟩⟩ := h
  · exact ⟨hl, .inl h⟩
  · refine ⟨hl, .inr ⟨g, cap, cur, h1, h2, ?_, h4, h5, h6, h7⟩⟩
    rw [hb.block g (by obtain ⟨hh, _⟩ := Array.getElem?_eq_some_iff.1 h3; exact hh)]
    exact h3

theorem lt_of_cell {w : World} {a : Addr} {v : Value} (h : w.cell? a = some v) : a.block < w.heap.size := by
  unfold World.cell? at h
  split at h
  · rename_i h1; exact lt_of_block h1
  · cases h

/-- One store of a copy into a row of the call's own. -/
theorem put_step {w wr : World} {B base e g n k : Nat} {l r : List Value} {v : Value} (hg : B ≤ g)
    (hown : wr.ownsRow base e 1 (.slice (some ⟨g, 0, none⟩) n n) n (mix l r k)) (hl : l.length = n) (hr : r.length = n) (hk : k < n) (hv : l[k]? = some v) (hbel : Below B w wr) :
    (wr.setCell ⟨g, k, none⟩ v).ownsRow base e 1 (.slice (some ⟨g, 0, none⟩) n n) n (mix l r (k + 1)) ∧ Below B w (wr.setCell ⟨g, k, none⟩ v) := by
  refine ⟨?_, hbel.setCell hg _⟩
  have h1 := (hown.stored k v).1
  rw [mix_set l r k (by omega) (by omega) v hv] at h1
  exact h1

/-- The place into which it stores. -/
theorem put_place {wr : World} {base e g n k : Nat} {xs : List Value} (hown : wr.ownsRow base e 1 (.slice (some ⟨g, 0, none⟩) n n) n xs) (hk : k < n) :
    (∃ u, wr.cell? ⟨g, k, none⟩ = some u) ∧ wr.frozen? ⟨g, k, none⟩ = false := by
  refine ⟨?_, hown.frozenAt k⟩
  rw [hown.cellAt k (by omega)]
  have hx : xs.length = n := by have := hown.1; omega
  exact ⟨xs[k], by simp [hx, hk]⟩

/-- The string at a place. -/
def sat (ss : List ByteArray) (k : Nat) : ByteArray := ss[k]?.getD ByteArray.empty

/-- A slice of strings that reads as the list ss. -/
def RdS (w : World) (ao : Option Addr) (ss : List ByteArray) : Prop :=
  ss.length ≤ maxLen ∧ (ss = [] ∨ ∃ b off, ao = some ⟨b, off, none⟩ ∧ ∀ i, i < ss.length → w.cell? ⟨b, off + i, none⟩ = some (.string (sat ss i)))

theorem rds_nil (w : World) (ao : Option Addr) : RdS w ao [] := ⟨Nat.zero_le _, .inl rfl⟩
theorem rds_row {w : World} {ao : Option Addr} {ss : List ByteArray} (h : RdS w ao ss) {k : Nat} (hk : k < ss.length) :
    ∃ b off, ao = some ⟨b, off, none⟩ ∧ w.cell? ⟨b, off + k, none⟩ = some (.string (sat ss k)) ∧ b < w.heap.size := by
  rcases h with ⟨_, rfl | ⟨b, off, rfl, hc⟩⟩
  · simp at hk
  · exact ⟨b, off, rfl, hc k hk, lt_of_cell (hc k hk)⟩
theorem rds_below {w w' : World} {ao : Option Addr} {ss : List ByteArray} (h : RdS w ao ss) (hb : Below w.heap.size w w') : RdS w' ao ss := by
  rcases h with ⟨hm, rfl | ⟨b, off, rfl, hc⟩⟩
  · exact ⟨hm, .inl rfl⟩
  · refine ⟨hm, .inr ⟨b, off, rfl, fun i hi => ?_⟩⟩
    rw [hb.cell (p := ⟨b, off + i, none⟩) (lt_of_cell (hc i hi))]
    exact hc i hi

def strs (ss : List ByteArray) : List Value := ss.map Value.string
theorem strs_length (ss : List ByteArray) : (strs ss).length = ss.length := by simp [strs]
theorem strs_get (ss : List ByteArray) (k : Nat) (h : k < ss.length) : (strs ss)[k]? = some (.string (sat ss k)) := by
  unfold strs sat; simp [h]
theorem rds_of_owns {w : World} {base : Nat} {ao : Option Addr} {n cap : Nat} {ss : List ByteArray} (h : w.ownsRow base 9 1 (.slice ao n cap) n (strs ss)) : RdS w ao ss := by
  have h' := h
  obtain ⟨hl, h | ⟨g, cap', cur, h1, h2, h3, h4, h5, h6, h7⟩⟩ := h
  · have : ss = [] := by have := strs_length ss; rw [hl, h.2] at this; exact List.length_eq_zero_iff.1 (by omega)
    subst this; exact ⟨Nat.zero_le _, .inl rfl⟩
  · have hz : ss.length = n := by have := strs_length ss; omega
    refine ⟨by omega, .inr ?_⟩
    simp at h1
    obtain ⟨rfl, rfl⟩ := h1
    refine ⟨g, 0, rfl, fun i hi => ?_⟩
    rw [Nat.zero_add, h'.cellAt i (by omega), strs_get ss i hi]

theorem Try.info9 : (Try.prog.info? 9).map (fun i => (i.zero, i.size, i.bytes)) = some (some (.string ⟨#[]⟩), 1, 16) := by kernel_rfl

set_option maxHeartbeats 1000000 in
set_option maxRecDepth 100000 in
theorem cloneStrs_row (b off cap : Nat) (zs : List ByteArray) (w : World) (hz : zs.length ≤ 1099511627776)
    (hc : ∀ i, i < zs.length → w.cell? ⟨b, off + i, none⟩ = some (.string (sat zs i))) :
    Calls Try.prog 7 #[.slice (some ⟨b, off, none⟩) zs.length cap] w fun e w' => ∃ ao, e = .returned (.slice ao zs.length zs.length) ∧ w'.ownsRow w.heap.size 9 1 (.slice ao zs.length zs.length) zs.length (strs zs) ∧ Below w.heap.size w w' := by
  obtain ⟨i0, hi, hz0, hz1, hz2⟩ := info_parts Try.info9
  have he : ∀ w : World, (binOp .eql 22 (.slice (some ⟨b, off, none⟩) zs.length cap) (.slice none 0 0)).run Try.prog w = .ok (.bool false) w := fun _ => rfl
  go_enter Try.func7, Try.ntmps7
  go_wp2_with (at_make; refine wpList_make_full _ rfl _ _ 22 rfl w.heap.size 9 i0 (.string ⟨#[]⟩) 1 Try.underlying22 hi hz0 hz1 .i64 .i64 _ _ zs.length rfl rfl (by omega) (by omega) (by rw [hz2]; omega) (by unfold maxLen; omega) (Nat.le_refl _) ?_; intro w1 hown hgrow)
  have hown1 : w1.ownsRow w.heap.size 9 1 (.slice (some ⟨w.heap.size, 0, none⟩) zs.length zs.length) zs.length (mix (strs zs) (List.replicate zs.length (.string ⟨#[]⟩)) 0) := by
    rw [mix_zero]; simpa [Value.cells, toList_madeCells_one] using hown
  have hbel : Below w.heap.size w w1 := (Below.refl _ _).grown hgrow (Nat.le_refl _) (fun k h => by cases h)
  clear hown hgrow hi hz0 hz1 hz2 he
  go_loopw [4] (fun i wr => ∃ k : Nat, k ≤ zs.length ∧ i = .int .i64 k ∧ wr.ownsRow w.heap.size 9 1 (.slice (some ⟨w.heap.size, 0, none⟩) zs.length zs.length) zs.length (mix (strs zs) (List.replicate zs.length (.string ⟨#[]⟩)) k) ∧ Below w.heap.size w wr)
    (fun i _ => zs.length - (intOf i).toNat)
  case atStart => exact ⟨0, Nat.zero_le _, rfl, hown1, hbel⟩
  case round =>
    clear hown1 hbel
    obtain ⟨k, hk, rfl, hown, hbel⟩ := hrel
    by_cases hlt : k < zs.length
    · have hcell : wr.cell? ⟨b, off + k, none⟩ = some (.string (sat zs k)) := by
        have h := hc k hlt
        rw [hbel.cell (p := ⟨b, off + k, none⟩) (lt_of_cell h)]; exact h
      obtain ⟨⟨u, hu⟩, hfr⟩ := put_place hown hlt
      have HS : Hid (_) := put_step (Nat.le_refl _) hown (strs_length zs) (by simp) hlt (strs_get zs k hlt) hbel
      clear hown hbel
      go_wp2
      go_roundw
      case rel => exact ⟨k + 1, hlt, by go_num, HS.out.1, HS.out.2⟩
      case measure => simp [intOf]; omega
    · have hkz : k = zs.length := by omega
      subst hkz
      rw [mix_full _ _ _ (strs_length zs) (by simp)] at hown
      go_wp2
      go_ret
      exact ⟨_, rfl, hown, hbel⟩

set_option maxHeartbeats 1000000 in
set_option maxRecDepth 100000 in
theorem cloneStrs_empty (a : Addr) (cap : Nat) (w : World) :
    Calls Try.prog 7 #[.slice (some a) 0 cap] w fun e w' => ∃ ao, e = .returned (.slice ao 0 0) ∧ w'.ownsRow w.heap.size 9 1 (.slice ao 0 0) 0 [] ∧ Below w.heap.size w w' := by
  obtain ⟨i0, hi, hz0, hz1, hz2⟩ := info_parts Try.info9
  have he : ∀ w : World, (binOp .eql 22 (.slice (some a) 0 cap) (.slice none 0 0)).run Try.prog w = .ok (.bool false) w := fun _ => rfl
  go_enter Try.func7, Try.ntmps7
  go_wp2_with (at_make; refine wpList_make_full _ rfl _ _ 22 rfl w.heap.size 9 i0 (.string ⟨#[]⟩) 1 Try.underlying22 hi hz0 hz1 .i64 .i64 _ _ 0 rfl rfl (by omega) (by omega) (by rw [hz2]; omega) (by unfold maxLen; omega) (Nat.le_refl _) ?_; intro w1 hown hgrow)
  have hown1 : w1.ownsRow w.heap.size 9 1 (.slice (some ⟨w.heap.size, 0, none⟩) 0 0) 0 [] := by
    simpa [Value.cells, toList_madeCells_one] using hown
  have hbel : Below w.heap.size w w1 := (Below.refl _ _).grown hgrow (Nat.le_refl _) (fun k h => by cases h)
  clear hown hgrow hi hz0 hz1 hz2 he
  go_loop [4] (fun i => i = .int .i64 0) (fun _ => 0)
  case atStart => rfl
  case round =>
    subst hrel
    go_wp2
    go_ret
    exact ⟨_, rfl, hown1, hbel⟩

theorem cloneStrs_nil (w : World) :
    Calls Try.prog 7 #[.slice none 0 0] w fun e w' => ∃ ao, e = .returned (.slice ao 0 0) ∧ w'.ownsRow w.heap.size 9 1 (.slice ao 0 0) 0 [] ∧ Below w.heap.size w w' := by
  have he : ∀ w : World, (binOp .eql 22 (.slice none 0 0) (.slice none 0 0)).run Try.prog w = .ok (.bool true) w := fun _ => rfl
  go_enter Try.func7, Try.ntmps7
  go_wp2
  go_ret
  exact ⟨_, rfl, World.ownsRow_nil _ _ _ _, Below.refl _ _⟩

/-- b1Clone. -/
theorem cloneStrs_any (ao : Option Addr) (len cap : Nat) (zs : List ByteArray) (w : World) (h : RdS w ao zs) (hl : zs.length = len) (hn : ao = none → cap = 0) (hz : len ≤ 1099511627776) :
    Calls Try.prog 7 #[.slice ao len cap] w fun e w' => ∃ ao', e = .returned (.slice ao' len len) ∧ w'.ownsRow w.heap.size 9 1 (.slice ao' len len) len (strs zs) ∧ Below w.heap.size w w' := by
  subst hl
  rcases h with ⟨hm, rfl | ⟨b, off, rfl, hc⟩⟩
  · cases ao with
    | none => rw [hn rfl]; exact cloneStrs_nil w
    | some a => exact cloneStrs_empty a cap w
  · exact cloneStrs_row b off cap zs w hz hc


set_option maxHeartbeats 1000000 in
theorem bytes_any (ad : Option Addr) (cd : Nat) (ds : List ByteArray) (w : World) (hd : RdS w ad ds) (zd : ∀ k, k < ds.length → (sat ds k).size ≤ maxLen) :
    Calls Try.prog 6 #[.slice ad ds.length cd] w fun e w' => ∃ T : Nat, e = .returned (.int .i64 T) ∧ T ≤ 4194304 ∧ w' = w := by
  have hl1 := hd.1
  have HD : Hid (RdS w ad ds) := hd
  have ZD : Hid (∀ k, k < ds.length → (sat ds k).size ≤ maxLen) := zd
  clear hd zd
  unfold maxLen at hl1
  go_enter Try.func6, Try.ntmps6
  go_wp2_with fail
  go_loop [3, 4] (fun t u => ∃ T k : Nat, T ≤ 1048576 ∧ k ≤ ds.length ∧ t = .int .i64 T ∧ u = .int .i64 k) (fun _ u => ds.length - (intOf u).toNat)
  case atStart => exact ⟨0, 0, by omega, Nat.zero_le _, rfl, rfl⟩
  case round =>
    obtain ⟨T, k, hT, hk, rfl, rfl⟩ := hrel
    by_cases hlt : k < ds.length
    · obtain ⟨b, off, rfl, hcell, _⟩ := rds_row HD.out hlt
      have hx0 := ZD.out k hlt
      unfold maxLen at hx0
      generalize sat ds k = x at hcell hx0
      by_cases hx : x.size ≤ 1048576
      · by_cases hy : T + (16 + x.size) ≤ 1048576
        · go_wp2_with fail
          go_round
          case rel => exact ⟨T + (16 + x.size), k + 1, hy, hlt, by go_num, by go_num⟩
          case measure => simp [intOf]; omega
        · go_wp2_with fail
          go_ret
          exact ⟨T + (16 + x.size), by simp, by omega, rfl⟩
      · go_wp2_with fail
        go_ret
        exact ⟨1048577, by simp, by omega, rfl⟩
    · go_wp2_with fail
      go_ret
      exact ⟨T, rfl, by omega, rfl⟩
end Go.Proofs.Qxb6603658a
