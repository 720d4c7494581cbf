import Derived.Test.Qxb6602575aW2
namespace Go.Proofs.Qxb6602575a
open Go.RowKit

/-- A copy that has come to place k. -/
def mix {α : Type} (l r : List α) (k : Nat) : List α := l.take k ++ r.drop k
theorem mix_zero {α : Type} (l r : List α) : mix l r 0 = r := by simp [mix]
theorem mix_full {α : Type} (l r : List α) (k : Nat) (hl : l.length = k) (hr : r.length = k) : mix l r k = l := by
  unfold mix; rw [List.take_of_length_le (by omega), List.drop_of_length_le (by omega)]; simp
theorem mix_set {α : Type} (l r : List α) (k : Nat) (hl : k < l.length) (hr : k < r.length) (v : α) (hv : l[k]? = some v) : (mix l r k).set k v = mix l r (k + 1) := by
  unfold mix
  have e : (List.take k l).length = k := by simp; omega
  rw [List.set_append_right _ _ (by omega), e, Nat.sub_self, List.drop_eq_getElem_cons hr, List.set_cons_zero, List.take_add_one, hv]
  simp

/-- The cells of a list of bytes. -/
def bys (zs : List Int) : List Value := zs.map (Value.int .u8)
theorem bys_length (zs : List Int) : (bys zs).length = zs.length := by simp [bys]
theorem bys_get (zs : List Int) (k : Nat) (h : k < zs.length) : (bys zs)[k]? = some (.int .u8 (Pl.bt zs k)) := by
  unfold bys Pl.bt; simp [h]

theorem Try.info5 : (Try.prog.info? 5).map (fun i => (i.zero, i.size, i.bytes)) = some (some (.int .u8 0), 1, 1) := by kernel_rfl

theorem owns_below {w w' : World} {base e size : Nat} {v : Value} {n : Nat} {xs : List Value} (h : w.ownsRow base e size v n xs) (hb : Below w.heap.size w w') : w'.ownsRow base e size v n xs := by
  obtain ⟨hl, h | ⟨g, cap, cur, h1, h2, h3, h4, h5, h6, h7⟩⟩ := h
  · exact ⟨hl, .inl h⟩
  · refine ⟨hl, .inr ⟨g, cap, cur, h1, h2, ?_, h4, h5, h6, h7⟩⟩
    rw [hb.block g (by obtain ⟨hh, _⟩ := Array.getElem?_eq_some_iff.1 h3; exact hh)]
    exact h3

theorem rd_of_owns {w : World} {base : Nat} {ao : Option Addr} {n cap : Nat} {zs : List Int} (h : w.ownsRow base 5 1 (.slice ao n cap) n (bys zs)) : Rd w ao zs := by
  have h' := h
  obtain ⟨hl, h | ⟨g, cap', cur, h1, h2, h3, h4, h5, h6, h7⟩⟩ := h
  · have : zs = [] := by have := bys_length zs; rw [hl, h.2] at this; exact List.length_eq_zero_iff.1 (by omega)
    subst this; exact ⟨Nat.zero_le _, .inl rfl⟩
  · have hz : zs.length = n := by have := bys_length zs; omega
    refine ⟨by omega, .inr ?_⟩
    simp at h1
    obtain ⟨rfl, rfl⟩ := h1
    refine ⟨g, 0, rfl, fun i hi => ?_⟩
    rw [Nat.zero_add, h'.cellAt i (by omega), bys_get zs i hi]

theorem lt_of_cell {w : World} {a : Addr} {v : Value} (h : w.cell? a = some v) : a.block < w.heap.size := by
  unfold World.cell? at h
  split at h
  · rename_i h1; exact lt_of_block h1
  · cases h

theorem rd_below {w w' : World} {ao : Option Addr} {zs : List Int} (h : Rd w ao zs) (hb : Below w.heap.size w w') : Rd w' ao zs := by
  rcases h with ⟨hm, rfl | ⟨b, off, rfl, hc⟩⟩
  · exact ⟨hm, .inl rfl⟩
  · refine ⟨hm, .inr ⟨b, off, rfl, fun i hi => ?_⟩⟩
    have := hc i hi
    rw [hb.cell (p := ⟨b, off + i, none⟩) ?_]
    · exact this
    · exact lt_of_cell this

theorem rd_nil (w : World) (ao : Option Addr) : Rd w ao [] := ⟨Nat.zero_le _, .inl rfl⟩
theorem rd_drop {w : World} {ao : Option Addr} {zs : List Int} (h : Rd w ao zs) (n : Nat) : Rd w (Option.map (fun x => x.add n) ao) (zs.drop n) := by
  rcases h with ⟨hm, rfl | ⟨b, off, rfl, hc⟩⟩
  · simp; exact rd_nil _ _
  · refine ⟨by simp; omega, .inr ⟨b, off + n, by simp [Addr.add], fun i hi => ?_⟩⟩
    rw [Pl.bt_drop, Nat.add_assoc]
    exact hc (n + i) (by simp at hi; omega)
theorem rd_take {w : World} {ao : Option Addr} {zs : List Int} (h : Rd w ao zs) (n : Nat) : Rd w ao (zs.take n) := by
  rcases h with ⟨hm, rfl | ⟨b, off, rfl, hc⟩⟩
  · simp; exact rd_nil _ _
  · refine ⟨by simp; omega, .inr ⟨b, off, rfl, fun i hi => ?_⟩⟩
    simp at hi
    rw [Pl.bt_take _ _ _ (by omega)]
    exact hc i (by omega)

/-- One store of a copy into a row of the call's own. -/
theorem put_step {w wr : World} {B base e g n k : Nat} {l r : List Value} {v : Value} (hg : B ≤ g)
    (hown : wr.ownsRow base e 1 (.slice (some ⟨g, 0, none⟩) n n) n (mix l r k)) (hl : l.length = n) (hr : r.length = n) (hk : k < n) (hv : l[k]? = some v) (hbel : Below B w wr) :
    (wr.setCell ⟨g, k, none⟩ v).ownsRow base e 1 (.slice (some ⟨g, 0, none⟩) n n) n (mix l r (k + 1)) ∧ Below B w (wr.setCell ⟨g, k, none⟩ v) := by
  refine ⟨?_, hbel.setCell hg _⟩
  have h1 := (hown.stored k v).1
  rw [mix_set l r k (by omega) (by omega) v hv] at h1
  exact h1

/-- The place into which it stores. -/
theorem put_place {wr : World} {base e g n k : Nat} {xs : List Value} (hown : wr.ownsRow base e 1 (.slice (some ⟨g, 0, none⟩) n n) n xs) (hk : k < n) :
    (∃ u, wr.cell? ⟨g, k, none⟩ = some u) ∧ wr.frozen? ⟨g, k, none⟩ = false := by
  refine ⟨?_, hown.frozenAt k⟩
  rw [hown.cellAt k (by omega)]
  have hx : xs.length = n := by have := hown.1; omega
  exact ⟨xs[k], by simp [hx, hk]⟩

set_option maxHeartbeats 1000000 in
set_option maxRecDepth 100000 in
theorem clone_row (b off cap : Nat) (zs : List Int) (w : World) (hz : zs.length ≤ 1099511627776)
    (hc : ∀ i, i < zs.length → w.cell? ⟨b, off + i, none⟩ = some (.int .u8 (Pl.bt zs i))) :
    Calls Try.prog 11 #[.slice (some ⟨b, off, none⟩) zs.length cap] w fun e w' => ∃ ao, e = .returned (.slice ao zs.length zs.length) ∧ w'.ownsRow w.heap.size 5 1 (.slice ao zs.length zs.length) zs.length (bys zs) ∧ Below w.heap.size w w' := by
  obtain ⟨i0, hi, hz0, hz1, hz2⟩ := info_parts Try.info5
  have he : ∀ w : World, (binOp .eql 22 (.slice (some ⟨b, off, none⟩) zs.length cap) (.slice none 0 0)).run Try.prog w = .ok (.bool false) w := fun _ => rfl
  go_enter Try.func11, Try.ntmps11
  go_wp2_with (at_make; refine wpList_make_full _ rfl _ _ 22 rfl w.heap.size 5 i0 (.int .u8 0) 1 Try.underlying22 hi hz0 hz1 .i64 .i64 _ _ zs.length rfl rfl (by omega) (by omega) (by rw [hz2]; omega) (by unfold maxLen; omega) (Nat.le_refl _) ?_; intro w1 hown hgrow)
  have hown1 : w1.ownsRow w.heap.size 5 1 (.slice (some ⟨w.heap.size, 0, none⟩) zs.length zs.length) zs.length (mix (bys zs) (List.replicate zs.length (.int .u8 0)) 0) := by
    rw [mix_zero]; simpa [Value.cells, toList_madeCells_one] using hown
  have hbel : Below w.heap.size w w1 := (Below.refl _ _).grown hgrow (Nat.le_refl _) (fun k h => by cases h)
  clear hown hgrow hi hz0 hz1 hz2 he
  go_loopw [4] (fun i wr => ∃ k : Nat, k ≤ zs.length ∧ i = .int .i64 k ∧ wr.ownsRow w.heap.size 5 1 (.slice (some ⟨w.heap.size, 0, none⟩) zs.length zs.length) zs.length (mix (bys zs) (List.replicate zs.length (.int .u8 0)) k) ∧ Below w.heap.size w wr)
    (fun i _ => zs.length - (intOf i).toNat)
  case atStart => exact ⟨0, Nat.zero_le _, rfl, hown1, hbel⟩
  case round =>
    clear hown1 hbel
    obtain ⟨k, hk, rfl, hown, hbel⟩ := hrel
    by_cases hlt : k < zs.length
    · have hcell : wr.cell? ⟨b, off + k, none⟩ = some (.int .u8 (Pl.bt zs k)) := by
        have h := hc k hlt
        rw [hbel.cell (p := ⟨b, off + k, none⟩) (lt_of_cell h)]; exact h
      obtain ⟨⟨u, hu⟩, hfr⟩ := put_place hown hlt
      have HS : Hid (_) := put_step (Nat.le_refl _) hown (bys_length zs) (by simp) hlt (bys_get zs k hlt) hbel
      clear hown hbel
      go_wp2
      go_roundw
      case rel => exact ⟨k + 1, hlt, by go_num, HS.out.1, HS.out.2⟩
      case measure => simp [intOf]; omega
    · have hkz : k = zs.length := by omega
      subst hkz
      rw [mix_full _ _ _ (bys_length zs) (by simp)] at hown
      go_wp2
      go_ret
      exact ⟨_, rfl, hown, hbel⟩

set_option maxHeartbeats 1000000 in
set_option maxRecDepth 100000 in
theorem clone_empty (a : Addr) (cap : Nat) (w : World) :
    Calls Try.prog 11 #[.slice (some a) 0 cap] w fun e w' => ∃ ao, e = .returned (.slice ao 0 0) ∧ w'.ownsRow w.heap.size 5 1 (.slice ao 0 0) 0 [] ∧ Below w.heap.size w w' := by
  obtain ⟨i0, hi, hz0, hz1, hz2⟩ := info_parts Try.info5
  have he : ∀ w : World, (binOp .eql 22 (.slice (some a) 0 cap) (.slice none 0 0)).run Try.prog w = .ok (.bool false) w := fun _ => rfl
  go_enter Try.func11, Try.ntmps11
  go_wp2_with (at_make; refine wpList_make_full _ rfl _ _ 22 rfl w.heap.size 5 i0 (.int .u8 0) 1 Try.underlying22 hi hz0 hz1 .i64 .i64 _ _ 0 rfl rfl (by omega) (by omega) (by rw [hz2]; omega) (by unfold maxLen; omega) (Nat.le_refl _) ?_; intro w1 hown hgrow)
  have hown1 : w1.ownsRow w.heap.size 5 1 (.slice (some ⟨w.heap.size, 0, none⟩) 0 0) 0 [] := by
    simpa [Value.cells, toList_madeCells_one] using hown
  have hbel : Below w.heap.size w w1 := (Below.refl _ _).grown hgrow (Nat.le_refl _) (fun k h => by cases h)
  clear hown hgrow hi hz0 hz1 hz2 he
  go_loop [4] (fun i => i = .int .i64 0) (fun _ => 0)
  case atStart => rfl
  case round =>
    subst hrel
    go_wp2
    go_ret
    exact ⟨_, rfl, hown1, hbel⟩

theorem clone_nil (w : World) :
    Calls Try.prog 11 #[.slice none 0 0] w fun e w' => ∃ ao, e = .returned (.slice ao 0 0) ∧ w'.ownsRow w.heap.size 5 1 (.slice ao 0 0) 0 [] ∧ Below w.heap.size w w' := by
  have he : ∀ w : World, (binOp .eql 22 (.slice none 0 0) (.slice none 0 0)).run Try.prog w = .ok (.bool true) w := fun _ => rfl
  go_enter Try.func11, Try.ntmps11
  go_wp2
  go_ret
  exact ⟨_, rfl, World.ownsRow_nil _ _ _ _, Below.refl _ _⟩

/-- jsb1CloneBytes of a slice that reads zs. -/
theorem clone_any (ao : Option Addr) (len cap : Nat) (zs : List Int) (w : World) (h : Rd w ao zs) (hl : zs.length = len) (hn : ao = none → cap = 0) (hz : len ≤ 1099511627776) :
    Calls Try.prog 11 #[.slice ao len cap] w fun e w' => ∃ ao', e = .returned (.slice ao' len len) ∧ w'.ownsRow w.heap.size 5 1 (.slice ao' len len) len (bys zs) ∧ Below w.heap.size w w' := by
  subst hl
  rcases h with ⟨hm, rfl | ⟨b, off, rfl, hc⟩⟩
  · cases ao with
    | none => rw [hn rfl]; exact clone_nil w
    | some a => exact clone_empty a cap w
  · exact clone_row b off cap zs w hz hc
end Go.Proofs.Qxb6602575a
namespace Go.Proofs.Qxb6602575a
open Go.RowKit
theorem addr_plain (b o j : Nat) : (⟨b, o, none⟩ : Addr).add j = ⟨b, o + j, none⟩ := by unfold Addr.add; split <;> simp_all
/-- From what a row's frame tells of a slice of bytes to what the walks ask. -/
theorem rd_came {w : World} {a : Option Addr} {len cap : Nat} {zs : List Int}
    (h : (a = none ∧ len = 0 ∧ cap = 0 ∧ zs = []) ∨
      ∃ x, a = some x ∧ len ≤ cap ∧ cap ≤ maxLen ∧ zs.length = cap ∧ (∀ i, i < zs.length → w.cell? (x.add i) = some (.int .u8 (zs.getD i 0))) ∧ ∀ n ∈ zs, (Lit.int .u8 n).wf = true) :
    Rd w a (zs.take len) ∧ (zs.take len).length = len ∧ (a = none → cap = 0) := by
  rcases h with ⟨rfl, rfl, rfl, rfl⟩ | ⟨x, rfl, h1, h2, h3, h4, _⟩
  · exact ⟨rd_nil _ _, rfl, fun _ => rfl⟩
  · refine ⟨?_, by simp; omega, fun h => by cases h⟩
    by_cases h0 : len = 0
    · subst h0; exact rd_nil _ _
    · obtain ⟨b, off, spot⟩ := x
      have hs : spot = none := by simpa [Addr.add] using World.cell?_spot (h4 0 (by omega))
      subst hs
      refine ⟨by simp; omega, .inr ⟨b, off, rfl, fun i hi => ?_⟩⟩
      simp at hi
      rw [Pl.bt_take _ _ _ (by omega)]
      have h5 := h4 i (by omega)
      rw [addr_plain] at h5
      simpa [Pl.bt] using h5
end Go.Proofs.Qxb6602575a
