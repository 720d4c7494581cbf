import Derived.Test.Qxb6602575aW21
namespace Go.Proofs.Qxb6602575a
open Go.RowKit

/-- What is offered to keep where a value ends at place e. -/
def offered (s : Str) (zs : List Int) (e : Nat) : List Int := (zs.take e).drop s.keepFrom.toNat
def stE (s : Str) : Int := if s.closers.n = 0 then 7 else 6
def endO (s : Str) (ks zs : List Int) (e : Nat) : Bool := keepO ks.length s.over (offered s zs e).length s.limit
/-- The stream behind valueEnded, its kept slice k. -/
def endS (s : Str) (ks zs : List Int) (e : Nat) (k : Sl) : Str :=
  if s.keepDepth = (s.closers.n : Int) then { s with over := endO s ks zs e, kept := k, keepDepth := -1, found := !endO s ks zs e, state := stE s } else { s with kept := k, state := stE s }
def endC (s : Str) (ks zs : List Int) (e : Nat) : List Int := if s.keepDepth = (s.closers.n : Int) then keepC ks s.over (offered s zs e) s.limit else ks

def VEpost (g : Nat) (s : Str) (ks zs : List Int) (j : Nat) (w : World) (w' : World) : Prop :=
  ∃ k : Sl, Strm w' g (endS s ks zs j k) ∧ w'.ownsRow 0 5 1 k.v k.n (bys (endC s ks zs j)) ∧ Only g w w'

set_option maxHeartbeats 2000000 in
set_option maxRecDepth 100000 in
theorem valueEnded_any (g j : Nat) (s : Str) (ks zs : List Int) (ap : Option Addr) (w : World) (hs : Strm w g s) (hk : w.ownsRow 0 5 1 s.kept.v s.kept.n (bys ks)) (hkc : s.kept.c = s.kept.n)
    (hp : w.ownsRow 0 5 1 (.slice ap zs.length zs.length) zs.length (bys zs)) (hj : j < zs.length) (hf : s.keepDepth = (s.closers.n : Int) → 0 ≤ s.keepFrom ∧ s.keepFrom ≤ j) (hz : ks.length + zs.length ≤ 1099511627776) :
    Calls Try.prog 45 #[.pointer (some ⟨g, 0, none⟩), .slice ap zs.length zs.length, .int .i64 j] w fun e' w' => e' = .returned (.tuple #[]) ∧ VEpost g s ks zs j w w' := by
  obtain ⟨b, off, rfl, _, _⟩ := rd_row (rd_of_owns hp) hj
  have HCell : Hid (∀ k, k < zs.length → w.cell? ⟨b, off + k, none⟩ = some (.int .u8 (Pl.bt zs k))) := by
    intro k hk
    obtain ⟨b', off', e1, e2, _⟩ := rd_row (rd_of_owns hp) hk
    cases e1; exact e2
  have c2 : w.cell? ⟨g, 2, none⟩ = some s.closers.v := hs.cell 2
  have c15 : w.cell? ⟨g, 15, none⟩ = some (.int .i64 s.keepDepth) := hs.cell 15
  have c16 : w.cell? ⟨g, 16, none⟩ = some (.int .i64 s.keepFrom) := hs.cell 16
  have c4 : w.cell? ⟨g, 4, none⟩ = some (.int .u8 s.state) := hs.cell 4
  have f4 := hs.free 4
  have HS : Hid (Strm w g s) := hs
  have HK : Hid (w.ownsRow 0 5 1 s.kept.v s.kept.n (bys ks)) := hk
  have HKC : Hid (s.kept.c = s.kept.n) := hkc
  clear hs hk hkc hp
  by_cases hd : s.keepDepth = (s.closers.n : Int)
  · obtain ⟨h0, hfj⟩ := hf hd
    clear hf
    have hdb : (s.keepDepth == (s.closers.n : Int)) = true := by rw [beq_iff_eq]; exact hd
    have HD : Hid (s.keepDepth = (s.closers.n : Int)) := hd
    obtain ⟨fr, hfr⟩ := Int.eq_ofNat_of_zero_le h0
    have HFr : Hid (s.keepFrom = (fr : Int)) := hfr
    rw [hfr] at c16
    have hfj' : fr ≤ j := by omega
    have hoff : offered s zs j = (zs.take j).drop fr := by unfold offered; rw [hfr]; rfl
    have HOff : Hid (offered s zs j = (zs.take j).drop fr) := hoff
    have hol : ((zs.take j).drop fr).length = j - fr := by simp; omega
    have HOl : Hid (((zs.take j).drop fr).length = j - fr) := hol
    clear hd h0 hfj hfr hoff hol
    go_enter Try.func45, Try.ntmps45
    go_wp2_with fail
    go_quiet (fail)
    go_wp2_with fail
    rw [← HOl.out]
    have hO : keepO ks.length s.over ((zs.take j).drop fr).length s.limit = endO s ks zs j := by unfold endO; rw [HOff.out]
    have hC : keepC ks s.over ((zs.take j).drop fr) s.limit = endC s ks zs j := by unfold endC; rw [if_pos HD.out, HOff.out]
    refine (keep_any g b (off + fr) (zs.length - fr) s ks ((zs.take j).drop fr) (w.drewN nq) (HS.out.drewN nq) HK.out HKC.out (fun i hi => ?_) (by rw [HOl.out]; omega)).mono ?_
    · have hi' : i < j - fr := by rw [← HOl.out]; exact hi
      rw [Pl.bt_drop, Pl.bt_take _ _ _ (by omega), Nat.add_assoc]
      exact HCell.out (fr + i) (by omega)
    rintro e w1 ⟨rfl, k, hs1, hk1, ho1⟩
    rw [hO] at hs1
    rw [hC] at hk1
    have HS1 : Hid (Strm w1 g { s with over := endO s ks zs j, kept := k }) := hs1
    have HK1 : Hid (w1.ownsRow 0 5 1 k.v k.n (bys (endC s ks zs j))) := hk1
    have HO1 : Hid (Only g w w1) := ((Only.refl g w).drewN nq).trans ho1
    have d2 : w1.cell? ⟨g, 2, none⟩ = some s.closers.v := hs1.cell 2
    have d15 : w1.cell? ⟨g, 15, none⟩ = some (.int .i64 s.keepDepth) := hs1.cell 15
    have d18 : w1.cell? ⟨g, 18, none⟩ = some (.bool (endO s ks zs j)) := hs1.cell 18
    have d19 : w1.cell? ⟨g, 19, none⟩ = some (.bool s.found) := hs1.cell 19
    have d4 : w1.cell? ⟨g, 4, none⟩ = some (.int .u8 s.state) := hs1.cell 4
    have e15 := hs1.free 15
    have e19 := hs1.free 19
    have e4 := hs1.free 4
    clear hs1 hk1 ho1 hO hC c2 c15 c16 c4 f4
    by_cases hn0 : s.closers.n = 0
    · have hnb : ((s.closers.n : Int) == 0) = true := by rw [beq_iff_eq]; omega
      have HE : Hid (∀ k', endS s ks zs j k' = { s with over := endO s ks zs j, kept := k', keepDepth := -1, found := !endO s ks zs j, state := 7 }) := by
        intro k'; unfold endS; rw [if_pos HD.out]; unfold stE; rw [if_pos hn0]
      clear hn0
      go_wp2_with fail
      go_end0
      refine ⟨rfl, k, ?_, ?_, (((HO1.out.setCell 15 _).setCell 19 _).setCell 4 _).setCell 4 _⟩
      · rw [HE.out]
        exact (((HS1.out.keepDepth (-1)).found _).state 6).state 7
      · exact own_strm HK1.out HS1.out (by decide) (((((Only.refl g w1).setCell 15 _).setCell 19 _).setCell 4 _).setCell 4 _)
    · have hnb : ((s.closers.n : Int) == 0) = false := by rw [beq_eq_false_iff_ne]; omega
      have HE : Hid (∀ k', endS s ks zs j k' = { s with over := endO s ks zs j, kept := k', keepDepth := -1, found := !endO s ks zs j, state := 6 }) := by
        intro k'; unfold endS; rw [if_pos HD.out]; unfold stE; rw [if_neg hn0]
      clear hn0
      go_wp2_with fail
      go_end0
      refine ⟨rfl, k, ?_, ?_, ((HO1.out.setCell 15 _).setCell 19 _).setCell 4 _⟩
      · rw [HE.out]
        exact ((HS1.out.keepDepth (-1)).found _).state 6
      · exact own_strm HK1.out HS1.out (by decide) ((((Only.refl g w1).setCell 15 _).setCell 19 _).setCell 4 _)
  · have hdb : (s.keepDepth == (s.closers.n : Int)) = false := by rw [beq_eq_false_iff_ne]; exact hd
    have HC : Hid (endC s ks zs j = ks) := by show _ = _; unfold endC; rw [if_neg hd]
    by_cases hn0 : s.closers.n = 0
    · have hnb : ((s.closers.n : Int) == 0) = true := by rw [beq_iff_eq]; omega
      have HE : Hid (endS s ks zs j s.kept = { s with kept := s.kept, state := 7 }) := by
        show _ = _; unfold endS; rw [if_neg hd]; unfold stE; rw [if_pos hn0]
      clear hn0 hd hf
      go_enter Try.func45, Try.ntmps45
      go_wp2_with fail
      go_quiet (fail)
      go_wp2_with fail
      go_end0
      refine ⟨rfl, s.kept, ?_, ?_, (((Only.refl g w).drewN nq).setCell 4 _).setCell 4 _⟩
      · rw [HE.out]; exact ((HS.out.drewN nq).state 6).state 7
      · rw [HC.out]; exact own_strm HK.out HS.out (by decide) ((((Only.refl g w).drewN nq).setCell 4 _).setCell 4 _)
    · have hnb : ((s.closers.n : Int) == 0) = false := by rw [beq_eq_false_iff_ne]; omega
      have HE : Hid (endS s ks zs j s.kept = { s with kept := s.kept, state := 6 }) := by
        show _ = _; unfold endS; rw [if_neg hd]; unfold stE; rw [if_neg hn0]
      clear hn0 hd hf
      go_enter Try.func45, Try.ntmps45
      go_wp2_with fail
      go_quiet (fail)
      go_wp2_with fail
      go_end0
      refine ⟨rfl, s.kept, ?_, ?_, ((Only.refl g w).drewN nq).setCell 4 _⟩
      · rw [HE.out]; exact (HS.out.drewN nq).state 6
      · rw [HC.out]; exact own_strm HK.out HS.out (by decide) (((Only.refl g w).drewN nq).setCell 4 _)
end Go.Proofs.Qxb6602575a
