import Derived.Test.Qxb6602575aRows
import Derived.Test.Qxb6602575aPlain
import Derived.WalkKit
import Derived.Below
namespace Go.Proofs.Qxb6602575a
open Go.RowKit

/-- A slice of bytes that reads as the list zs: empty (whatever it points to), or a row of cells. -/
def Rd (w : World) (ao : Option Addr) (zs : List Int) : Prop :=
  zs.length ≤ maxLen ∧ (zs = [] ∨ ∃ b off, ao = some ⟨b, off, none⟩ ∧ ∀ i, i < zs.length → w.cell? ⟨b, off + i, none⟩ = some (.int .u8 (Pl.bt zs i)))

theorem ret_int {k : IntKind} {a b : Int} (h : a = b) : Ending.returned (.int k a) = .returned (.int k b) := by rw [h]

theorem digitsEnd_empty (ao : Option Addr) (cap i : Nat) (w : World) :
    Calls Try.prog 44 #[.slice ao 0 cap, .int .i64 i] w fun e w' => e = .returned (.int .i64 (-1)) ∧ w' = w := by
  go_enter Try.func44, Try.ntmps44
  go_wp2
  go_loop [1] (fun t => t = .int .i64 i) (fun _ => 0)
  case atStart => rfl
  case round =>
    subst hrel
    go_wp2
    go_ret
    exact ⟨rfl, rfl⟩

set_option maxHeartbeats 400000 in
theorem digitsEnd_row (b off cap i : Nat) (zs : List Int) (w : World) (hi : i ≤ maxLen) (hz : zs.length ≤ maxLen)
    (hc : ∀ i, i < zs.length → w.cell? ⟨b, off + i, none⟩ = some (.int .u8 (Pl.bt zs i))) :
    Calls Try.prog 44 #[.slice (some ⟨b, off, none⟩) zs.length cap, .int .i64 i] w fun e w' => e = .returned (.int .i64 (Pl.digEnd zs i)) ∧ w' = w := by
  unfold maxLen at hi hz
  go_enter Try.func44, Try.ntmps44
  go_wp2
  go_loop [1] (fun t => ∃ k : Nat, k ≤ Pl.digRun (zs.drop i) ∧ t = .int .i64 ((i + k : Nat) : Int)) (fun t => zs.length - (intOf t).toNat)
  case atStart => exact ⟨0, Nat.zero_le _, rfl⟩
  case round =>
    obtain ⟨k, hk, rfl⟩ := hrel
    have hle := Pl.digRun_drop_le zs i
    by_cases hlt : i + k < zs.length
    · have hcell := hc (i + k) hlt
      have HS : Hid (_) := Pl.digEnd_out zs i k hk
      have HT : Hid (_) := Pl.digRun_step zs i k hk hlt
      by_cases hd : 48 ≤ Pl.bt zs (i + k) ∧ Pl.bt zs (i + k) ≤ 57
      · obtain ⟨h1, h2⟩ := hd
        go_wp2
        go_round
        case rel => exact ⟨k + 1, HT.out h1 h2, by go_num⟩
        case measure => simp [intOf]; omega
      · go_wp2
        all_goals go_ret
        all_goals exact ⟨ret_int (by rw [HS.out (by omega)]; simp [*]), rfl⟩
    · have HS : Hid (_) := Pl.digEnd_out zs i k hk
      go_wp2
      all_goals go_ret
      all_goals exact ⟨ret_int (by rw [HS.out (by omega)]; simp [*]), rfl⟩

/-- digitsEnd on a slice that reads zs. -/
theorem digitsEnd_any (ao : Option Addr) (len cap : Nat) (zs : List Int) (i : Int) (w : World) (h : Rd w ao zs) (hl : zs.length = len) (h0 : 0 ≤ i) (hi : i ≤ 9223372036854775807) :
    Calls Try.prog 44 #[.slice ao len cap, .int .i64 i] w fun e w' => e = .returned (.int .i64 (Pl.digEnd zs i.toNat)) ∧ w' = w := by
  obtain ⟨n, rfl⟩ := Int.eq_ofNat_of_zero_le h0
  subst hl
  rcases h with ⟨hm, rfl | ⟨b, off, rfl, hc⟩⟩
  · have e : Pl.digEnd [] (n : Int).toNat = -1 := Pl.digEnd_past [] _ (Nat.zero_le _)
    rw [e]
    exact digitsEnd_empty ao cap n w
  · exact digitsEnd_row b off cap n zs w (by unfold maxLen; omega) hm hc
end Go.Proofs.Qxb6602575a
