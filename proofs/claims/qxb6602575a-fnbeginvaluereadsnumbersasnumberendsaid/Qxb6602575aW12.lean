import Derived.Test.Qxb6602575aW11
namespace Go.Proofs.Qxb6602575a
open Go.RowKit

theorem NR_ret {VE : Nat → Nat → World → Prop} {g : Nat} {s : Str} {zs : List Int} {i ph : Nat} {w w' : World} {e : Ending} (h : NRpost VE g s zs i ph w e w') : ∃ r, e = .returned (.int .i64 r) := by
  rcases h with ⟨_, h, _⟩ | ⟨_, _, h, _⟩ | ⟨_, _, h, _⟩
  · exact ⟨_, h⟩
  · exact ⟨_, h⟩
  · exact ⟨_, h⟩

/-- What beginValue leaves of a value that begins as a number. -/
def BNpost (VE : Nat → Nat → World → Prop) (g : Nat) (s : Str) (zs : List Int) (i q0 : Nat) (w : World) (e : Ending) (w' : World) : Prop :=
  ∃ w2, Strm w2 g { s with number := (q0 : Nat), state := 9 } ∧ Only g w w2 ∧ NRpost VE g { s with number := (q0 : Nat), state := 9 } zs (i + 1) q0 w2 e w'

set_option maxHeartbeats 2000000 in
set_option maxRecDepth 100000 in
theorem beginNum_any (VE : Nat → Nat → World → Prop) (g i q0 : Nat) (ao : Option Addr) (zs : List Int) (s : Str) (w : World) (hs : Strm w g s) (hown : w.ownsRow 0 5 1 (.slice ao zs.length zs.length) zs.length (bys zs))
    (hz : zs.length ≤ 1099511627776) (hi : i < zs.length) (hq : Pl.step 8 (Pl.bt zs i) = some q0) (hnm : s.named = false) (hb : s.broken = false)
    (hV : ∀ (e q : Nat) (W : World), i + 1 ≤ e → e < zs.length → Strm W g { s with number := (q : Nat), state := 9 } → Only g w W →
      Calls Try.prog 45 #[.pointer (some ⟨g, 0, none⟩), .slice ao zs.length zs.length, .int .i64 e] W fun e' w' => e' = .returned (.tuple #[]) ∧ VE e q w') :
    Calls Try.prog 43 #[.pointer (some ⟨g, 0, none⟩), .slice ao zs.length zs.length, .int .i64 i] w fun e w' => BNpost VE g s zs i q0 w e w' := by
  obtain ⟨b, off, rfl, hcell, _⟩ := rd_row (rd_of_owns hown) hi
  have HV : Hid (∀ (e q : Nat) (W : World), i + 1 ≤ e → e < zs.length → Strm W g { s with number := (q : Nat), state := 9 } → Only g w W →
      Calls Try.prog 45 #[.pointer (some ⟨g, 0, none⟩), .slice (some ⟨b, off, none⟩) zs.length zs.length, .int .i64 e] W fun e' w' => e' = .returned (.tuple #[]) ∧ VE e q w') := hV
  have HS : Hid (Strm w g s) := hs
  have HO : Hid (w.ownsRow 0 5 1 (.slice (some ⟨b, off, none⟩) zs.length zs.length) zs.length (bys zs)) := hown
  have HB : Hid (s.broken = false) := hb
  have c12 : w.cell? ⟨g, 12, none⟩ = some (.bool false) := by rw [hs.cell 12]; simp [Str.cells, hnm]
  have c5 : w.cell? ⟨g, 5, none⟩ = some (.int .u8 s.number) := hs.cell 5
  have c4 : w.cell? ⟨g, 4, none⟩ = some (.int .u8 s.state) := hs.cell 4
  have f5 := hs.free 5
  have f4 := hs.free 4
  have fin : ∀ (q : Nat), q ≤ 7 → q = q0 → Calls Try.prog 40 #[.pointer (some ⟨g, 0, none⟩), .slice (some ⟨b, off, none⟩) zs.length zs.length, .int .i64 ((i + 1 : Nat) : Int)]
      ((w.setCell ⟨g, 5, none⟩ (.int .u8 (q : Nat))).setCell ⟨g, 4, none⟩ (.int .u8 9)) fun e w' => BNpost VE g s zs i q0 w e w' := by
    intro q hq7 hqq
    subst hqq
    have hs2 : Strm ((w.setCell ⟨g, 5, none⟩ (.int .u8 (q : Nat))).setCell ⟨g, 4, none⟩ (.int .u8 9)) g { s with number := (q : Nat), state := 9 } := (hs.number q).state 9
    have ho2 : Only g w ((w.setCell ⟨g, 5, none⟩ (.int .u8 (q : Nat))).setCell ⟨g, 4, none⟩ (.int .u8 9)) := ((Only.refl g w).setCell 5 _).setCell 4 _
    refine (numberRest_any VE g (i + 1) q (some ⟨b, off, none⟩) zs { s with number := (q : Nat), state := 9 } _ hs2 (own_strm hown hs (by decide) ho2) hz (by omega) hq7 rfl hb ?_).mono ?_
    · intro e q' W h1 h2 h3 h4
      exact hV e q' W h1 h2 h3 (ho2.trans h4)
    · intro e w' hp
      exact ⟨_, hs2, ho2, hp⟩
  have HF : Hid (∀ (q : Nat), q ≤ 7 → q = q0 → Calls Try.prog 40 #[.pointer (some ⟨g, 0, none⟩), .slice (some ⟨b, off, none⟩) zs.length zs.length, .int .i64 ((i + 1 : Nat) : Int)]
      ((w.setCell ⟨g, 5, none⟩ (.int .u8 (q : Nat))).setCell ⟨g, 4, none⟩ (.int .u8 9)) fun e w' => BNpost VE g s zs i q0 w e w') := fin
  clear hV hs hown hb hnm fin
  generalize Pl.bt zs i = c at hcell hq
  by_cases h45 : c = 45
  · subst h45
    have hq' : 0 = q0 := by simpa [Pl.step] using hq
    have HQ : Hid (0 = q0) := hq'
    clear hq hq'
    go_enter Try.func43, Try.ntmps43
    go_wp2_with fail
    refine (HF.out 0 (by omega) HQ.out).mono ?_
    rintro e w1 hp
    obtain ⟨r, rfl⟩ : ∃ r, e = .returned (.int .i64 r) := by obtain ⟨_, _, _, h⟩ := hp; exact NR_ret h
    have HP : Hid (BNpost VE g s zs i q0 w (.returned (.int .i64 r)) w1) := hp
    clear hp
    go_wp2_with fail
    go_ret
    exact HP.out
  by_cases h48 : c = 48
  · subst h48
    have hq' : 1 = q0 := by simpa [Pl.step] using hq
    have HQ : Hid (1 = q0) := hq'
    clear hq hq' h45
    go_enter Try.func43, Try.ntmps43
    go_wp2_with fail
    refine (HF.out 1 (by omega) HQ.out).mono ?_
    rintro e w1 hp
    obtain ⟨r, rfl⟩ : ∃ r, e = .returned (.int .i64 r) := by obtain ⟨_, _, _, h⟩ := hp; exact NR_ret h
    have HP : Hid (BNpost VE g s zs i q0 w (.returned (.int .i64 r)) w1) := hp
    clear hp
    go_wp2_with fail
    go_ret
    exact HP.out
  cases hd : Pl.dig c with
  | false => simp [Pl.step, h45, h48, hd] at hq
  | true =>
    have hq' : 2 = q0 := by simpa [Pl.step, h45, h48, hd] using hq
    have HQ : Hid (2 = q0) := hq'
    obtain ⟨h1, h2⟩ := (Pl.dig_iff c).1 hd
    have h3 : 49 ≤ c := by omega
    clear hq hq' h45 h48 hd h1
    go_enter Try.func43, Try.ntmps43
    go_wp2_with fail
    refine (HF.out 2 (by omega) HQ.out).mono ?_
    rintro e w1 hp
    obtain ⟨r, rfl⟩ : ∃ r, e = .returned (.int .i64 r) := by obtain ⟨_, _, _, h⟩ := hp; exact NR_ret h
    have HP : Hid (BNpost VE g s zs i q0 w (.returned (.int .i64 r)) w1) := hp
    clear hp
    go_wp2_with fail
    go_ret
    exact HP.out
end Go.Proofs.Qxb6602575a
