import Derived.Test.Qxb6602575aW7
namespace Go.Proofs.Qxb6602575a
open Go.RowKit

theorem rd_row {w : World} {ao : Option Addr} {zs : List Int} (h : Rd w ao zs) {k : Nat} (hk : k < zs.length) :
    ∃ b off, ao = some ⟨b, off, none⟩ ∧ w.cell? ⟨b, off + k, none⟩ = some (.int .u8 (Pl.bt zs k)) ∧ b < w.heap.size := by
  rcases h with ⟨_, rfl | ⟨b, off, rfl, hc⟩⟩
  · simp at hk
  · exact ⟨b, off, rfl, hc k hk, lt_of_cell (hc k hk)⟩

theorem bt_app_left (a b : List Int) (k : Nat) (h : k < a.length) : Pl.bt (a ++ b) k = Pl.bt a k := by
  unfold Pl.bt; rw [List.getElem?_append_left h]
theorem bt_app_right (a b : List Int) (k : Nat) : Pl.bt (a ++ b) (a.length + k) = Pl.bt b k := by
  unfold Pl.bt; rw [List.getElem?_append_right (by omega)]; simp

set_option maxHeartbeats 1000000 in
set_option maxRecDepth 100000 in
/-- jsb1Concat. -/
theorem concat_any (aa ab : Option Addr) (la lb ca cb : Nat) (xs ys : List Int) (w : World) (ha : Rd w aa xs) (hb : Rd w ab ys) (hla : xs.length = la) (hlb : ys.length = lb) (hz : la + lb ≤ 1099511627776) :
    Calls Try.prog 28 #[.slice aa la ca, .slice ab lb cb] w fun e w' => ∃ ao, e = .returned (.slice ao (la + lb) (la + lb)) ∧ w'.ownsRow w.heap.size 5 1 (.slice ao (la + lb) (la + lb)) (la + lb) (bys (xs ++ ys)) ∧ Below w.heap.size w w' := by
  obtain ⟨i0, hi, hz0, hz1, hz2⟩ := info_parts Try.info5
  obtain ⟨n, hn⟩ : ∃ n, n = la + lb := ⟨_, rfl⟩
  rw [← hn]
  have hlen : (bys (xs ++ ys)).length = n := by rw [bys_length, List.length_append]; omega
  have HN : Hid (n = la + lb) := hn
  have HX : Hid (xs.length = la) := hla
  have HY : Hid (ys.length = lb) := hlb
  have hn1 : la ≤ n := by omega
  have hn2 : n ≤ 1099511627776 := by omega
  have HC : Hid (∀ k, k < la → (bys (xs ++ ys))[k]? = some (.int .u8 (Pl.bt xs k))) := fun k hk => by
    rw [bys_get _ _ (by rw [List.length_append]; omega), bt_app_left _ _ _ (by omega)]
  have HD : Hid (∀ k, k < lb → (bys (xs ++ ys))[la + k]? = some (.int .u8 (Pl.bt ys k))) := fun k hk => by
    rw [bys_get _ _ (by rw [List.length_append]; omega), ← hla, bt_app_right _ _ _]
  have HL : Hid ((bys (xs ++ ys)).length = n) := hlen
  generalize bys (xs ++ ys) = cs at HC HD HL ⊢
  clear hlen hn hla hlb
  go_enter Try.func28, Try.ntmps28
  go_upto_block 0 with (at_make; refine wpList_make_full _ rfl _ _ 22 rfl w.heap.size 5 i0 (.int .u8 0) 1 Try.underlying22 hi hz0 hz1 .i64 .i64 _ _ n rfl rfl (by have := HN.out; omega) (by have := HN.out; omega) (by rw [hz2]; omega) (by unfold maxLen; omega) (Nat.le_refl _) ?_; intro w1 hown hgrow)
  have hown1 : w1.ownsRow w.heap.size 5 1 (.slice (some ⟨w.heap.size, 0, none⟩) n n) n (mix cs (List.replicate n (.int .u8 0)) 0) := by
    rw [mix_zero]; simpa [Value.cells, toList_madeCells_one] using hown
  have hbel : Below w.heap.size w w1 := (Below.refl _ _).grown hgrow (Nat.le_refl _) (fun k h => by cases h)
  clear hown hgrow hi hz0 hz1 hz2
  go_cut [6] (fun _ wr => wr.ownsRow w.heap.size 5 1 (.slice (some ⟨w.heap.size, 0, none⟩) n n) n (mix cs (List.replicate n (.int .u8 0)) la) ∧ Below w.heap.size w wr)
  case first =>
    go_wp2_with fail
    go_loopw [6] (fun i wr => ∃ k : Nat, k ≤ la ∧ i = .int .i64 k ∧ wr.ownsRow w.heap.size 5 1 (.slice (some ⟨w.heap.size, 0, none⟩) n n) n (mix cs (List.replicate n (.int .u8 0)) k) ∧ Below w.heap.size w wr)
      (fun i _ => la - (intOf i).toNat)
    case atStart => exact ⟨0, Nat.zero_le _, rfl, hown1, hbel⟩
    case round =>
      clear hown1 hbel
      obtain ⟨k, hk, rfl, hown, hbel⟩ := hrel
      by_cases hlt : k < la
      · obtain ⟨b, off, rfl, hcl, hbl⟩ := rd_row ha (k := k) (by rw [HX.out]; exact hlt)
        have hcell : wr.cell? ⟨b, off + k, none⟩ = some (.int .u8 (Pl.bt xs k)) := by
          rw [hbel.cell (p := ⟨b, off + k, none⟩) hbl]; exact hcl
        obtain ⟨⟨u, hu⟩, hfr⟩ := put_place hown (show k < n by omega)
        have HS : Hid (_) := put_step (Nat.le_refl _) hown HL.out (by simp) (by omega) (HC.out k hlt) hbel
        clear hown hbel hcl ha hb
        go_wp2
        go_roundw
        case rel => exact ⟨k + 1, hlt, by go_num, HS.out.1, HS.out.2⟩
        case measure => simp [intOf]; omega
      · have hkz : k = la := by omega
        subst hkz
        go_wp2_with fail
        go_meet
        exact ⟨hown, hbel⟩
  case rest =>
  obtain ⟨hown2, hbel2⟩ := hcut
  clear hown1 hbel
  go_wp2_with fail
  go_loopw [7] (fun i wr => ∃ k : Nat, k ≤ lb ∧ i = .int .i64 k ∧ wr.ownsRow w.heap.size 5 1 (.slice (some ⟨w.heap.size, 0, none⟩) n n) n (mix cs (List.replicate n (.int .u8 0)) (la + k)) ∧ Below w.heap.size w wr)
    (fun i _ => lb - (intOf i).toNat)
  case atStart => exact ⟨0, Nat.zero_le _, rfl, hown2, hbel2⟩
  case round =>
    clear hown2 hbel2
    obtain ⟨k, hk, rfl, hown, hbel⟩ := hrel
    by_cases hlt : k < lb
    · obtain ⟨b, off, rfl, hcl, hbl⟩ := rd_row hb (k := k) (by rw [HY.out]; exact hlt)
      have hcell : wr.cell? ⟨b, off + k, none⟩ = some (.int .u8 (Pl.bt ys k)) := by
        rw [hbel.cell (p := ⟨b, off + k, none⟩) hbl]; exact hcl
      have hkn : la + k < n := by have := HN.out; omega
      obtain ⟨⟨u, hu⟩, hfr⟩ := put_place hown hkn
      have HS : Hid (_) := put_step (Nat.le_refl _) hown HL.out (by simp) hkn (HD.out k hlt) hbel
      clear hown hbel hcl ha hb
      go_wp2
      go_roundw
      case rel => exact ⟨k + 1, hlt, by go_num, HS.out.1, HS.out.2⟩
      case measure => simp [intOf]; omega
    · have hkz : la + k = n := by have := HN.out; omega
      rw [hkz, mix_full _ _ _ HL.out (by simp)] at hown
      clear hkz
      go_wp2_with fail
      go_ret
      exact ⟨_, rfl, hown, hbel⟩
end Go.Proofs.Qxb6602575a
