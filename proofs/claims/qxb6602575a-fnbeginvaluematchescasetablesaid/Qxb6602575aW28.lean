import Derived.Test.Qxb6602575aW27
namespace Go.Proofs.Qxb6602575a
open Go.RowKit

def VE2 (B g : Nat) (s : Str) (ks zs : List Int) (j : Nat) (w : World) (w' : World) : Prop :=
  ∃ k : Sl, Strm w' g (endS s ks zs j k) ∧ w'.ownsRow B 5 1 k.v k.n (bys (endC s ks zs j)) ∧ Below B w w'

set_option maxHeartbeats 2000000 in
set_option maxRecDepth 100000 in
theorem valueEnded2 (B g j : Nat) (s : Str) (ks zs : List Int) (ap : Option Addr) (w : World) (hs : Strm w g s) (hgB : B ≤ g) (hk : w.ownsRow B 5 1 s.kept.v s.kept.n (bys ks))
    (hp : w.ownsRow 0 5 1 (.slice ap zs.length zs.length) zs.length (bys zs)) (hj : j < zs.length) (hf : s.keepDepth = (s.closers.n : Int) → 0 ≤ s.keepFrom ∧ s.keepFrom ≤ j) (hz : ks.length + zs.length ≤ 1099511627776) :
    Calls Try.prog 45 #[.pointer (some ⟨g, 0, none⟩), .slice ap zs.length zs.length, .int .i64 j] w fun e' w' => e' = .returned (.tuple #[]) ∧ VE2 B g s ks zs j w w' := by
  obtain ⟨b, off, rfl, _, _⟩ := rd_row (rd_of_owns hp) hj
  have HCell : Hid (∀ k, k < zs.length → w.cell? ⟨b, off + k, none⟩ = some (.int .u8 (Pl.bt zs k))) := by
    intro k hk
    obtain ⟨b', off', e1, e2, _⟩ := rd_row (rd_of_owns hp) hk
    cases e1; exact e2
  have c2 : w.cell? ⟨g, 2, none⟩ = some s.closers.v := hs.cell 2
  have c15 : w.cell? ⟨g, 15, none⟩ = some (.int .i64 s.keepDepth) := hs.cell 15
  have c16 : w.cell? ⟨g, 16, none⟩ = some (.int .i64 s.keepFrom) := hs.cell 16
  have c4 : w.cell? ⟨g, 4, none⟩ = some (.int .u8 s.state) := hs.cell 4
  have f4 := hs.free 4
  have HS : Hid (Strm w g s) := hs
  have HK : Hid (w.ownsRow B 5 1 s.kept.v s.kept.n (bys ks)) := hk
  have hBw : B ≤ w.heap.size := Nat.le_of_lt (Nat.lt_of_le_of_lt hgB hs.lt)
  clear hs hk hp
  by_cases hd : s.keepDepth = (s.closers.n : Int)
  · obtain ⟨h0, hfj⟩ := hf hd
    clear hf
    have hdb : (s.keepDepth == (s.closers.n : Int)) = true := by rw [beq_iff_eq]; exact hd
    have HD : Hid (s.keepDepth = (s.closers.n : Int)) := hd
    obtain ⟨fr, hfr⟩ := Int.eq_ofNat_of_zero_le h0
    have HFr : Hid (s.keepFrom = (fr : Int)) := hfr
    rw [hfr] at c16
    have hfj' : fr ≤ j := by omega
    have hoff : offered s zs j = (zs.take j).drop fr := by unfold offered; rw [hfr]; rfl
    have HOff : Hid (offered s zs j = (zs.take j).drop fr) := hoff
    have hol : ((zs.take j).drop fr).length = j - fr := by simp; omega
    have HOl : Hid (((zs.take j).drop fr).length = j - fr) := hol
    clear hd h0 hfj hfr hoff hol
    go_enter Try.func45, Try.ntmps45
    go_wp2_with fail
    go_quiet (fail)
    go_wp2_with fail
    rw [← HOl.out]
    have hO : keepO ks.length s.over ((zs.take j).drop fr).length s.limit = endO s ks zs j := by unfold endO; rw [HOff.out]
    have hC : keepC ks s.over ((zs.take j).drop fr) s.limit = endC s ks zs j := by unfold endC; rw [if_pos HD.out, HOff.out]
    refine (keep2 B g b (off + fr) (zs.length - fr) s ks ((zs.take j).drop fr) (w.drewN nq) (HS.out.drewN nq) hgB HK.out (fun i hi => ?_) (by rw [HOl.out]; omega)).mono ?_
    · have hi' : i < j - fr := by rw [← HOl.out]; exact hi
      rw [Pl.bt_drop, Pl.bt_take _ _ _ (by omega), Nat.add_assoc]
      exact HCell.out (fr + i) (by omega)
    rintro e w1 ⟨rfl, k, hs1, hk1, ho1⟩
    rw [hO] at hs1
    rw [hC] at hk1
    have HS1 : Hid (Strm w1 g { s with over := endO s ks zs j, kept := k }) := hs1
    have HK1 : Hid (w1.ownsRow B 5 1 k.v k.n (bys (endC s ks zs j))) := hk1
    have HO1 : Hid (Below B w w1) := ((Below.refl B w).drewN' nq).trans ho1
    have hBw1 : B ≤ w1.heap.size := Nat.le_trans hBw HO1.out.size
    have d2 : w1.cell? ⟨g, 2, none⟩ = some s.closers.v := hs1.cell 2
    have d15 : w1.cell? ⟨g, 15, none⟩ = some (.int .i64 s.keepDepth) := hs1.cell 15
    have d18 : w1.cell? ⟨g, 18, none⟩ = some (.bool (endO s ks zs j)) := hs1.cell 18
    have d19 : w1.cell? ⟨g, 19, none⟩ = some (.bool s.found) := hs1.cell 19
    have d4 : w1.cell? ⟨g, 4, none⟩ = some (.int .u8 s.state) := hs1.cell 4
    have e15 := hs1.free 15
    have e19 := hs1.free 19
    have e4 := hs1.free 4
    clear hs1 hk1 ho1 hO hC c2 c15 c16 c4 f4
    by_cases hn0 : s.closers.n = 0
    · have hnb : ((s.closers.n : Int) == 0) = true := by rw [beq_iff_eq]; omega
      have HE : Hid (∀ k', endS s ks zs j k' = { s with over := endO s ks zs j, kept := k', keepDepth := -1, found := !endO s ks zs j, state := 7 }) := by
        intro k'; unfold endS; rw [if_pos HD.out]; unfold stE; rw [if_pos hn0]
      clear hn0
      go_wp2_with fail
      go_end0
      refine ⟨rfl, k, ?_, ?_, HO1.out.trans (((((Only.refl g w1).setCell 15 _).setCell 19 _).setCell 4 _).setCell 4 _ |>.below hgB hBw1)⟩
      · rw [HE.out]
        exact (((HS1.out.keepDepth (-1)).found _).state 6).state 7
      · exact own_strm HK1.out HS1.out (by decide) (((((Only.refl g w1).setCell 15 _).setCell 19 _).setCell 4 _).setCell 4 _)
    · have hnb : ((s.closers.n : Int) == 0) = false := by rw [beq_eq_false_iff_ne]; omega
      have HE : Hid (∀ k', endS s ks zs j k' = { s with over := endO s ks zs j, kept := k', keepDepth := -1, found := !endO s ks zs j, state := 6 }) := by
        intro k'; unfold endS; rw [if_pos HD.out]; unfold stE; rw [if_neg hn0]
      clear hn0
      go_wp2_with fail
      go_end0
      refine ⟨rfl, k, ?_, ?_, HO1.out.trans ((((Only.refl g w1).setCell 15 _).setCell 19 _).setCell 4 _ |>.below hgB hBw1)⟩
      · rw [HE.out]
        exact ((HS1.out.keepDepth (-1)).found _).state 6
      · exact own_strm HK1.out HS1.out (by decide) ((((Only.refl g w1).setCell 15 _).setCell 19 _).setCell 4 _)
  · have hdb : (s.keepDepth == (s.closers.n : Int)) = false := by rw [beq_eq_false_iff_ne]; exact hd
    have HC : Hid (endC s ks zs j = ks) := by show _ = _; unfold endC; rw [if_neg hd]
    by_cases hn0 : s.closers.n = 0
    · have hnb : ((s.closers.n : Int) == 0) = true := by rw [beq_iff_eq]; omega
      have HE : Hid (endS s ks zs j s.kept = { s with kept := s.kept, state := 7 }) := by
        show _ = _; unfold endS; rw [if_neg hd]; unfold stE; rw [if_pos hn0]
      clear hn0 hd hf
      go_enter Try.func45, Try.ntmps45
      go_wp2_with fail
      go_quiet (fail)
      go_wp2_with fail
      go_end0
      refine ⟨rfl, s.kept, ?_, ?_, (((Only.refl g w).drewN nq).setCell 4 _).setCell 4 _ |>.below hgB hBw⟩
      · rw [HE.out]; exact ((HS.out.drewN nq).state 6).state 7
      · rw [HC.out]; exact own_strm HK.out HS.out (by decide) ((((Only.refl g w).drewN nq).setCell 4 _).setCell 4 _)
    · have hnb : ((s.closers.n : Int) == 0) = false := by rw [beq_eq_false_iff_ne]; omega
      have HE : Hid (endS s ks zs j s.kept = { s with kept := s.kept, state := 6 }) := by
        show _ = _; unfold endS; rw [if_neg hd]; unfold stE; rw [if_neg hn0]
      clear hn0 hd hf
      go_enter Try.func45, Try.ntmps45
      go_wp2_with fail
      go_quiet (fail)
      go_wp2_with fail
      go_end0
      refine ⟨rfl, s.kept, ?_, ?_, ((Only.refl g w).drewN nq).setCell 4 _ |>.below hgB hBw⟩
      · rw [HE.out]; exact (HS.out.drewN nq).state 6
      · rw [HC.out]; exact own_strm HK.out HS.out (by decide) (((Only.refl g w).drewN nq).setCell 4 _)

/-- numberRest and the model of the scan say the same. -/
theorem nr_link2 {B ph n : Nat} {zs ks : List Int} {used : Int} {ended bad : Bool} {phn g : Nat} {s : Str} {w5 w6 : World} {e : Ending} (hph : ph ≤ 7) (hn : n ≤ zs.length)
    (hsc : Scan (phText ph ++ zs.drop n) (phText ph).length (zs.length - n) used ended bad phn)
    (hs : Strm w5 g s) (hgB : B ≤ g) (hb : s.broken = false) (hk : w5.ownsRow B 5 1 s.kept.v s.kept.n (bys ks))
    (hnr : NRpost (fun e q w' => VE2 B g { s with number := (q : Nat) } ks zs e w5 w') g s zs n ph w5 e w6) :
    ∃ k : Sl, e = .returned (.int .i64 (if ended then (n : Int) + used else zs.length)) ∧
      Strm w6 g { fin ended { s with number := (phn : Nat) } ks zs ((n : Int) + used).toNat k with broken := bad } ∧
      w6.ownsRow B 5 1 k.v k.n (bys (finC ended { s with number := (phn : Nat) } ks zs ((n : Int) + used).toNat)) ∧ Below B w5 w6 := by
  have hBw : B ≤ w5.heap.size := Nat.le_of_lt (Nat.lt_of_le_of_lt hgB hs.lt)
  unfold Scan at hsc
  rw [Pl.run_pre ph hph] at hsc
  rw [List.length_append, List.length_drop] at hsc
  unfold NRpost at hnr
  simp only at hsc
  have hlen : (Pl.run ph (zs.drop n)).1 ≤ zs.length - n := by have := Pl.run_le ph (zs.drop n); rwa [List.length_drop] at this
  have key : ∀ (v j : Nat) (b : Bool), ({ fin false { s with number := (v : Nat) } ks zs j s.kept with broken := b } : Str) = { s with number := (v : Nat), broken := b } := fun _ _ _ => rfl
  rcases hsc with ⟨h1, rfl, rfl, rfl, rfl⟩ | ⟨h1, h2, rfl, rfl, rfl, rfl⟩ | ⟨h1, h2, rfl, rfl, rfl, rfl⟩
  · rcases hnr with ⟨_, rfl, hs6, ho⟩ | ⟨h3, _⟩ | ⟨h3, _⟩
    · refine ⟨s.kept, rfl, ?_, ?_, ho.below hgB hBw⟩
      · rw [key]
        have : ({ s with number := ((Pl.run ph (zs.drop n)).2 : Nat), broken := false } : Str) = { s with number := ((Pl.run ph (zs.drop n)).2 : Nat) } := by rw [← hb]
        rw [this]; exact hs6
      · exact own_strm hk hs (by decide) ho
    · omega
    · omega
  · rcases hnr with ⟨h3, _⟩ | ⟨_, _, rfl, hve⟩ | ⟨_, h3, _⟩
    · omega
    · obtain ⟨k, hs6, hk6, ho⟩ := hve
      have e1 : (n : Int) + (((phText ph).length + (Pl.run ph (zs.drop n)).1 : Nat) - ((phText ph).length : Int)) = ((n + (Pl.run ph (zs.drop n)).1 : Nat) : Int) := by omega
      rw [e1, Int.toNat_natCast]
      refine ⟨k, rfl, ?_, hk6, ho⟩
      have : ({ fin true { s with number := ((Pl.run ph (zs.drop n)).2 : Nat) } ks zs (n + (Pl.run ph (zs.drop n)).1) k with broken := false } : Str) = endS { s with number := ((Pl.run ph (zs.drop n)).2 : Nat) } ks zs (n + (Pl.run ph (zs.drop n)).1) k := by
        unfold fin endS
        simp only [if_true]
        split <;> rw [← hb]
      rw [this]; exact hs6
    · rw [h2] at h3; cases h3
  · rcases hnr with ⟨h3, _⟩ | ⟨_, h3, _⟩ | ⟨_, _, rfl, hs6, ho⟩
    · omega
    · rw [h2] at h3; cases h3
    · refine ⟨s.kept, rfl, ?_, ?_, ho.below hgB hBw⟩
      · rw [key]; exact hs6
      · exact own_strm hk hs (by decide) ho

def RM2 (B g n : Nat) (zs ks : List Int) (s : Str) (used : Int) (ended bad : Bool) (phn : Nat) (w : World) (e : Ending) (w' : World) : Prop :=
  ∃ k : Sl, e = .returned (.int .i64 (if ended then (n : Int) + used else zs.length)) ∧
    Strm w' g { fin ended { s with number := (phn : Nat) } ks zs ((n : Int) + used).toNat k with broken := bad } ∧
    w'.ownsRow B 5 1 k.v k.n (bys (finC ended { s with number := (phn : Nat) } ks zs ((n : Int) + used).toNat)) ∧ Below B w w'

theorem rest_model2 (B g n ph : Nat) (ao : Option Addr) (zs ks : List Int) (s : Str) (w : World) (used : Int) (ended bad : Bool) (phn : Nat) (hs : Strm w g s) (hgB : B ≤ g) (hk : w.ownsRow B 5 1 s.kept.v s.kept.n (bys ks))
    (hp : w.ownsRow 0 5 1 (.slice ao zs.length zs.length) zs.length (bys zs)) (hph : ph ≤ 7) (hq : s.number = (ph : Nat)) (hb : s.broken = false) (hn : n ≤ zs.length) (hz : ks.length + zs.length ≤ 1099511627776)
    (hf : s.keepDepth = (s.closers.n : Int) → 0 ≤ s.keepFrom ∧ s.keepFrom ≤ n) (hsc : Scan (phText ph ++ zs.drop n) (phText ph).length (zs.length - n) used ended bad phn) :
    Calls Try.prog 40 #[.pointer (some ⟨g, 0, none⟩), .slice ao zs.length zs.length, .int .i64 n] w fun e w' => RM2 B g n zs ks s used ended bad phn w e w' := by
  have hBw : B ≤ w.heap.size := Nat.le_of_lt (Nat.lt_of_le_of_lt hgB hs.lt)
  refine (numberRest_any (fun e q w' => VE2 B g { s with number := (q : Nat) } ks zs e w w') g n ph ao zs s w hs hp (by omega) hn hph hq hb ?_).mono ?_
  · intro e q W he1 he2 hS hO
    refine (valueEnded2 B g e { s with number := (q : Nat) } ks zs ao W hS hgB (own_strm hk hs (by decide) hO) (own_strm hp hs (by decide) hO) he2 (fun h => ?_) hz).mono ?_
    · obtain ⟨h1, h2⟩ := hf h
      exact ⟨h1, by show s.keepFrom ≤ _; omega⟩
    · rintro e' w' ⟨h1, k, h2, h3, h4⟩
      exact ⟨h1, k, h2, h3, (hO.below hgB hBw).trans h4⟩
  · intro e w' h
    exact nr_link2 hph hn hsc hs hgB hb hk h
end Go.Proofs.Qxb6602575a
