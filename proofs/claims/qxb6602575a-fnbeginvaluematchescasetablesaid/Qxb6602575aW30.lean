import Derived.Test.Qxb6602575aW29
import Derived.BigRegion
import Derived.Maps.AppendAt
namespace Go.Proofs.Qxb6602575a
open Go.RowKit

set_option maxHeartbeats 4000000 in
set_option maxRecDepth 100000 in
theorem beginValue_any (wm w : World) (g i : Nat) (ao : Option Addr) (zs : List Int) (s : Str) (C : Con) (used : Int) (ended bad : Bool) (phn : Nat) (hs : Strm w g s) (hgB : wm.heap.size ≤ g) (hb : Below wm.heap.size wm w)
    (hp : wm.ownsRow 0 5 1 (.slice ao zs.length zs.length) zs.length (bys zs)) (hk : w.ownsRow wm.heap.size 5 1 s.kept.v s.kept.n (bys C.kept)) (hcl : wm.ownsRow 0 5 1 s.closers.v s.closers.n (bys C.closers)) (hclc : s.closers.c = s.closers.n)
    (hi : i < zs.length) (hz : C.kept.length + zs.length ≤ 1099511627776) (hcn : s.closers.n ≤ 10000) (hbr : s.broken = false)
    (hf : numc (Pl.bt zs i) = true → ¬ (s.named = true ∧ s.onPath = (s.path.n : Int)) → s.keepDepth = (s.closers.n : Int) → 0 ≤ s.keepFrom ∧ s.keepFrom ≤ i)
    (hsc : numc (Pl.bt zs i) = true → Scan (phText (phc (Pl.bt zs i)) ++ zs.drop (i + 1)) (phText (phc (Pl.bt zs i))).length (zs.length - (i + 1)) used ended bad phn) :
    Calls Try.prog 43 #[.pointer (some ⟨g, 0, none⟩), .slice ao zs.length zs.length, .int .i64 i] w fun e w' => BV wm g (table s C zs i used ended bad phn) e w' := by
  have hpw := owns_below hp hb
  obtain ⟨b, off, rfl, hcell, _⟩ := rd_row (rd_of_owns hpw) hi
  have hBw : wm.heap.size ≤ w.heap.size := hb.size
  have c12 : w.cell? ⟨g, 12, none⟩ = some (.bool s.named) := hs.cell 12
  have HS : Hid (Strm w g s) := hs
  have HB : Hid (Below wm.heap.size wm w) := hb
  have HP : Hid (wm.ownsRow 0 5 1 (.slice (some ⟨b, off, none⟩) zs.length zs.length) zs.length (bys zs)) := hp
  have HK : Hid (w.ownsRow wm.heap.size 5 1 s.kept.v s.kept.n (bys C.kept)) := hk
  have HCl : Hid (wm.ownsRow 0 5 1 s.closers.v s.closers.n (bys C.closers)) := hcl
  have HClC : Hid (s.closers.c = s.closers.n) := hclc
  have HBr : Hid (s.broken = false) := hbr
  have HF : Hid (numc (Pl.bt zs i) = true → ¬ (s.named = true ∧ s.onPath = (s.path.n : Int)) → s.keepDepth = (s.closers.n : Int) → 0 ≤ s.keepFrom ∧ s.keepFrom ≤ i) := hf
  have HSc : Hid (numc (Pl.bt zs i) = true → Scan (phText (phc (Pl.bt zs i)) ++ zs.drop (i + 1)) (phText (phc (Pl.bt zs i))).length (zs.length - (i + 1)) used ended bad phn) := hsc
  clear hs hb hp hk hcl hclc hbr hf hsc hpw
  go_enter Try.func43, Try.ntmps43
  go_upto_if 12 with fail
  go_cut [7] (fun t wx => t = .bool (entN s (Pl.bt zs i)) ∧ NM wm g s (i : Int) C.kept wx)
  case first =>
    cases hnm : s.named with
    | false =>
      have HNm : Hid (s.named = false) := hnm
      rw [hnm] at c12
      clear hnm
      go_wp2_with fail
      go_meet
      refine ⟨by unfold entN; rw [HNm.out]; rfl, s.kept, ?_, ?_, HB.out⟩
      · unfold tN; rw [if_neg (by rw [HNm.out]; decide)]; exact HS.out
      · unfold kN; rw [if_neg (by rw [HNm.out]; intro h; cases h.1)]; exact HK.out
    | true =>
      have HNm : Hid (s.named = true) := hnm
      rw [hnm] at c12
      have c19 : w.cell? ⟨g, 19, none⟩ = some (.bool s.found) := HS.out.cell 19
      have c3 : w.cell? ⟨g, 3, none⟩ = some (.int .i64 s.onPath) := HS.out.cell 3
      have c0 : w.cell? ⟨g, 0, none⟩ = some s.path.v := HS.out.cell 0
      have f12 := HS.out.free 12
      have f19 := HS.out.free 19
      clear hnm
      by_cases hd : s.onPath = (s.path.n : Int)
      · have hdb : (s.onPath == (s.path.n : Int)) = true := by rw [beq_iff_eq]; exact hd
        have HD : Hid (s.onPath = (s.path.n : Int)) := hd
        clear hd
        go_upto_region 4 with fail
        obtain ⟨W2, hW2⟩ : ∃ W, W = (w.setCell ⟨g, 12, none⟩ (.bool false)).setCell ⟨g, 19, none⟩ (.bool false) := ⟨_, rfl⟩
        rw [← hW2]
        have HS2 : Hid (Strm W2 g { s with named := false, found := false }) := by rw [hW2]; exact (HS.out.named false).found false
        have HO2 : Hid (Only g w W2) := by rw [hW2]; exact ((Only.refl g w).setCell 12 _).setCell 19 _
        have d3 : W2.cell? ⟨g, 3, none⟩ = some (.int .i64 s.onPath) := HS2.out.cell 3
        have d0 : W2.cell? ⟨g, 0, none⟩ = some s.path.v := HS2.out.cell 0
        clear hW2 c12 c19 c3 c0 f12 f19
        go_quiet (fail)
        obtain ⟨W3, hW3⟩ : ∃ W, W = W2.drewN nq := ⟨_, rfl⟩
        rw [← hW3]
        have HS3 : Hid (Strm W3 g { s with named := false, found := false }) := by rw [hW3]; exact HS2.out.drewN nq
        have HO3 : Hid (Only g w W3) := by rw [hW3]; exact HO2.out.drewN nq
        have d2 : W3.cell? ⟨g, 2, none⟩ = some s.closers.v := HS3.out.cell 2
        have d15 : W3.cell? ⟨g, 15, none⟩ = some (.int .i64 s.keepDepth) := HS3.out.cell 15
        have d16 : W3.cell? ⟨g, 16, none⟩ = some (.int .i64 s.keepFrom) := HS3.out.cell 16
        have d17 : W3.cell? ⟨g, 17, none⟩ = some s.kept.v := HS3.out.cell 17
        have d18 : W3.cell? ⟨g, 18, none⟩ = some (.bool s.over) := HS3.out.cell 18
        have e15 := HS3.out.free 15
        have e16 := HS3.out.free 16
        have e17 := HS3.out.free 17
        have e18 := HS3.out.free 18
        clear hW3 HS2 HO2 d3 d0
        go_wp2_with fail
        go_region
        go_wp2_with fail
        go_meet
        have hO : Only g w ((((W3.drew.setCell ⟨g, 15, none⟩ (.int .i64 s.closers.n)).setCell ⟨g, 16, none⟩ (.int .i64 i)).setCell ⟨g, 17, none⟩ (Sl.v ⟨s.kept.a, 0, s.kept.c⟩)).setCell ⟨g, 18, none⟩ (.bool false)) :=
          ((((HO3.out.drew).setCell 15 _).setCell 16 _).setCell 17 _).setCell 18 _
        refine ⟨by unfold entN; rw [beq_iff_eq.2 HD.out]; simp, ⟨s.kept.a, 0, s.kept.c⟩, ?_, ?_, HB.out.trans (hO.below hgB hBw)⟩
        · unfold tN; rw [if_pos HNm.out, if_pos HD.out]
          exact (((((HS3.out.drewN 1).keepDepth _).keepFrom _).kept ⟨s.kept.a, 0, s.kept.c⟩).over false)
        · unfold kN; rw [if_pos ⟨HNm.out, HD.out⟩]
          exact own_strm (owns_cut HK.out) HS.out (by decide) hO
      · have hdb : (s.onPath == (s.path.n : Int)) = false := by rw [beq_eq_false_iff_ne]; exact hd
        have HD : Hid (¬ s.onPath = (s.path.n : Int)) := hd
        clear hd
        go_upto_region 4 with fail
        obtain ⟨W2, hW2⟩ : ∃ W, W = (w.setCell ⟨g, 12, none⟩ (.bool false)).setCell ⟨g, 19, none⟩ (.bool false) := ⟨_, rfl⟩
        rw [← hW2]
        have HS2 : Hid (Strm W2 g { s with named := false, found := false }) := by rw [hW2]; exact (HS.out.named false).found false
        have HO2 : Hid (Only g w W2) := by rw [hW2]; exact ((Only.refl g w).setCell 12 _).setCell 19 _
        have d3 : W2.cell? ⟨g, 3, none⟩ = some (.int .i64 s.onPath) := HS2.out.cell 3
        have d0 : W2.cell? ⟨g, 0, none⟩ = some s.path.v := HS2.out.cell 0
        have hcell2 : W2.cell? ⟨b, off + i, none⟩ = some (.int .u8 (Pl.bt zs i)) := by
          obtain ⟨b', off', e1, e2, _⟩ := rd_row (rd_of_owns (own_strm (owns_below HP.out HB.out) HS.out (by decide) HO2.out)) hi
          cases e1; exact e2
        clear hW2 c12 c19 c3 c0 f12 f19 hcell
        go_quiet (fail)
        go_wp2_with fail
        go_meet
        refine ⟨by unfold entN; rw [HNm.out, hdb]; rfl, s.kept, ?_, ?_, HB.out.trans ((HO2.out.drewN nq).below hgB hBw)⟩
        · unfold tN; rw [if_pos HNm.out, if_neg HD.out]
          exact HS2.out.drewN nq
        · unfold kN; rw [if_neg (fun h => HD.out h.2)]
          exact own_strm HK.out HS.out (by decide) (HO2.out.drewN nq)
  case rest =>
  obtain ⟨rfl, k, hT0, hk0, hb0⟩ := hcut
  rename World => w1
  obtain ⟨T, hT⟩ : ∃ T, T = tN s (i : Int) k := ⟨_, rfl⟩
  rw [← hT] at hT0
  have HT : Hid (T = tN s (i : Int) k) := hT
  have HS1 : Hid (Strm w1 g T) := hT0
  have HK1 : Hid (w1.ownsRow wm.heap.size 5 1 k.v k.n (bys (kN s C.kept))) := hk0
  have HB1 : Hid (Below wm.heap.size wm w1) := hb0
  have hTc : T.closers = s.closers := by rw [hT]; exact tN_closers _ _ _
  have HTc : Hid (T.closers = s.closers) := hTc
  have HTb : Hid (T.broken = false) := by show _ = _; rw [hT, tN_broken]; exact HBr.out
  have HTo : Hid (T.onPath = s.onPath) := by show _ = _; rw [hT]; exact tN_onPath _ _ _
  have HTk : Hid (T.kept = k) := by show _ = _; rw [hT]; exact tN_kept _ _ _
  have hcell1 : w1.cell? ⟨b, off + i, none⟩ = some (.int .u8 (Pl.bt zs i)) := by
    obtain ⟨b', off', e1, e2, _⟩ := rd_row (rd_of_owns (owns_below HP.out hb0)) hi
    cases e1; exact e2
  have hBw1 : wm.heap.size ≤ w1.heap.size := hb0.size
  have HCl1 : Hid (w1.ownsRow 0 5 1 s.closers.v s.closers.n (bys C.closers)) := owns_below HCl.out hb0
  clear hT hT0 hk0 hb0 hTc hcell c12 HS HK HB
  have fin0 : ∀ (o : BOut), o.bad = true → o.ret = zs.length → (∀ k cl, o.S k cl = { tN s i k with closers := cl }) → o.kc = kN s C.kept → o.cc = C.closers → BV wm g o (.returned (.int .i64 zs.length)) (w1.setCell ⟨g, 20, none⟩ (.bool true)) := by
    intro o h1 h2 h3 h4 h5
    refine ⟨k, s.closers, by rw [h2], ?_, ?_, ?_, HB1.out.trans (((Only.refl g w1).setCell 20 _).below hgB hBw1)⟩
    · rw [h3, h1, ← HT.out, ← HTc.out]; exact HS1.out.broken true
    · rw [h4]; exact own_strm HK1.out HS1.out (by decide) ((Only.refl g w1).setCell 20 _)
    · rw [h5]; exact own_strm HCl1.out HS1.out (by decide) ((Only.refl g w1).setCell 20 _)
  have HFin0 : Hid (∀ (o : BOut), o.bad = true → o.ret = zs.length → (∀ k cl, o.S k cl = { tN s i k with closers := cl }) → o.kc = kN s C.kept → o.cc = C.closers → BV wm g o (.returned (.int .i64 zs.length)) (w1.setCell ⟨g, 20, none⟩ (.bool true))) := fin0
  clear fin0
  obtain ⟨en, hen⟩ : ∃ x, x = entN s (Pl.bt zs i) := ⟨_, rfl⟩
  rw [← hen]
  have HEn : Hid (entN s (Pl.bt zs i) = en) := hen.symm
  clear hen
  by_cases h123 : Pl.bt zs i = 123
  · have HTab1 : Hid (s.closers.n = 10000 → table s C zs i used ended bad phn = ⟨zs.length, true, fun k cl => { tN s i k with closers := cl }, kN s C.kept, C.closers⟩) := by
      intro h; unfold table; rw [if_pos (Or.inl h123), if_pos h]
    have HTab2 : Hid (¬ s.closers.n = 10000 → table s C zs i used ended bad phn = ⟨((i + 1 : Nat) : Int), false, fun k cl => { tN s i k with closers := cl, state := 1, onPath := bump s en }, kN s C.kept, C.closers ++ [125]⟩) := by
      intro h; unfold table; rw [if_pos (Or.inl h123), if_neg h, HEn.out, if_pos h123, if_pos h123]
    rw [h123] at hcell1
    clear h123
    have d2 : w1.cell? ⟨g, 2, none⟩ = some s.closers.v := by rw [← HTc.out]; exact HS1.out.cell 2
    by_cases hcn' : s.closers.n = 10000
    · have hcb : ((s.closers.n : Int) == 10000) = true := by rw [beq_iff_eq]; omega
      have HTab : Hid (_) := HTab1.out hcn'
      clear hcn'
      go_wp2_with fail
      refine (fail_any g T _ _ _ _ HS1.out).mono ?_
      rintro e w2 ⟨rfl, hw⟩
      subst hw
      go_wp2_with fail
      go_ret
      rw [HTab.out]
      exact HFin0.out _ rfl rfl (fun _ _ => rfl) rfl rfl
    · have hcb : ((s.closers.n : Int) == 10000) = false := by rw [beq_eq_false_iff_ne]; omega
      have HTab : Hid (_) := HTab2.out hcn'
      clear hcn' HTab1 HTab2 HFin0
      have d4 : w1.cell? ⟨g, 4, none⟩ = some (.int .u8 T.state) := HS1.out.cell 4
      have e4 := HS1.out.free 4
      obtain ⟨i0, hi0, hz0, hz1, hz2'⟩ := info_parts Try.info5
      have hcap : s.closers.c < s.closers.n + 1 := by rw [HClC.out]; omega
      have HH4 : Hid (s.closers.a = none → s.closers.n = 0 ∧ s.closers.c = 0) := by
        intro hn
        obtain ⟨_, ⟨h1, h2⟩ | ⟨g', cap, cur, h1, _⟩⟩ := HCl1.out
        · exact ⟨h2, by rw [HClC.out]; exact h2⟩
        · simp [Sl.v, hn] at h1
      have hcl1 := HCl1.out
      have HLen : Hid (C.closers.length = s.closers.n) := by show _ = _; have := owns_len hcl1; rwa [bys_length] at this
      clear hcl1
      go_upto_region 21 with fail
      obtain ⟨W2, hW2⟩ : ∃ W, W = w1.setCell ⟨g, 4, none⟩ (.int .u8 1) := ⟨_, rfl⟩
      rw [← hW2]
      have HS2 : Hid (Strm W2 g { T with state := 1 }) := by rw [hW2]; exact HS1.out.state 1
      have HO2 : Hid (Only g w1 W2) := by rw [hW2]; exact (Only.refl g w1).setCell 4 _
      have HCl2 : Hid (W2.ownsRow 0 5 1 s.closers.v s.closers.n (bys C.closers)) := own_strm HCl1.out HS1.out (by decide) HO2.out
      have HK2 : Hid (W2.ownsRow wm.heap.size 5 1 k.v k.n (bys (kN s C.kept))) := own_strm HK1.out HS1.out (by decide) HO2.out
      have HB2 : Hid (Below wm.heap.size wm W2) := HB1.out.trans (HO2.out.below hgB hBw1)
      have x2 : W2.cell? ⟨g, 2, none⟩ = some s.closers.v := by rw [← HTc.out]; exact HS2.out.cell 2
      have HH1 : Hid (∀ b', s.closers.a = some b' → ∀ j u, (bys C.closers)[j]? = some u → (W2.alloc (.cells #[.int .u8 125] 5)).cell? (b'.add j) = some u) := by
        intro b' hb' j u hj
        have hk2 := owns_below HCl2.out ((Below.refl W2.heap.size W2).alloc (Nat.le_refl _) (.cells #[.int .u8 125] 5))
        obtain ⟨_, ⟨h1, h2⟩ | ⟨g', cap, cur, h1, _⟩⟩ := hk2
        · simp [Sl.v, hb'] at h1
        · have hlt : j < s.closers.n := by
            have := (List.getElem?_eq_some_iff.1 hj).1
            rw [bys_length, HLen.out] at this; exact this
          have hk3 := owns_below HCl2.out ((Below.refl W2.heap.size W2).alloc (Nat.le_refl _) (.cells #[.int .u8 125] 5))
          simp [Sl.v] at h1
          obtain ⟨ha, hc⟩ := h1
          rw [ha] at hb'
          obtain rfl := Option.some.inj hb'
          rw [addr_plain, Nat.zero_add]
          unfold Sl.v at hk3
          rw [ha] at hk3
          rw [hk3.cellAt j (by omega)]; exact hj
      clear hW2 HS1 HO2 HCl1 HK1 d4 e4 d2
      repeat (first | (at_builtin; fail) | ((fail_if_success at_builtin); first | go_values | go_skip | go_guarded | go_step | go_upon))
      refine wpList_append_grows _ rfl _ _ 22 rfl 5 i0 (.int .u8 0) 1 1 Try.underlying22 hi0 hz0 hz1 hz2' rfl (by decide) s.closers.a s.closers.n s.closers.c (bys C.closers) rfl HH4.out (by rw [bys_length, HLen.out]; omega) HH1.out ⟨W2.heap.size, 0, none⟩ 1 1 [.int .u8 125] rfl rfl (cell_one_new _ _ _) (ints_oneCell .u8 [125]) hcap (by unfold maxLen; omega) (by omega) ?_
      intro v' w3 hown hgrow
      obtain ⟨cl, rfl, hcln, _⟩ := owns_sl hown
      have b3 : Below W2.heap.size W2 w3 := ((Below.refl W2.heap.size W2).alloc (Nat.le_refl _) (.cells #[.int .u8 125] 5)).grown hgrow (by simp) (fun k h => by cases h)
      have HS3 : Hid (Strm w3 g { T with state := 1 }) := HS2.out.below b3
      have HCw : Hid (w3.ownsRow 0 5 1 cl.v cl.n (bys (C.closers ++ [125]))) := by
        rw [hcln, show bys (C.closers ++ [125]) = bys C.closers ++ [.int .u8 125] from List.map_append]
        exact own_base0 hown (Nat.zero_le _)
      have HK3 : Hid (w3.ownsRow wm.heap.size 5 1 k.v k.n (bys (kN s C.kept))) := owns_below HK2.out b3
      have HB3 : Hid (Below wm.heap.size wm w3) := HB2.out.trans (b3.mono HB2.out.size)
      have hBw3 : wm.heap.size ≤ w3.heap.size := HB3.out.size
      have y2 : w3.cell? ⟨g, 2, none⟩ = some s.closers.v := by rw [← HTc.out]; exact HS3.out.cell 2
      have z2 : w3.frozen? ⟨g, 2, none⟩ = false := HS3.out.free 2
      have y3 : w3.cell? ⟨g, 3, none⟩ = some (.int .i64 s.onPath) := by rw [← HTo.out]; exact HS3.out.cell 3
      have z3 : w3.frozen? ⟨g, 3, none⟩ = false := HS3.out.free 3
      clear hcln hown hgrow b3 HK2 HB2 HS2 x2 HCl2 HH1 hi0 hz0 hz1 hz2'
      cases en with
      | true =>
        go_wp2_with fail
        go_ret
        rw [HTab.out]
        refine ⟨k, cl, rfl, ?_, ?_, ?_, HB3.out.trans ((((Only.refl g w3).setCell 2 _).setCell 3 _).below hgB hBw3)⟩
        · show Strm _ g { { tN s i k with closers := cl, state := 1, onPath := bump s true } with broken := false }
          rw [← HT.out]
          have h9 := (HS3.out.closers cl).onPath (wrap64 (s.onPath + 1))
          have e9 : ({ { { T with state := 1 } with closers := cl } with onPath := wrap64 (s.onPath + 1) } : Str) = { { T with closers := cl, state := 1, onPath := bump s true } with broken := false } := by rw [← HTb.out]; rfl
          rw [e9] at h9; exact h9
        · exact own_strm HK3.out HS3.out (by decide) (((Only.refl g w3).setCell 2 _).setCell 3 _)
        · exact own_strm HCw.out HS3.out (by decide) (((Only.refl g w3).setCell 2 _).setCell 3 _)
      | false =>
        go_wp2_with fail
        go_ret
        rw [HTab.out]
        refine ⟨k, cl, rfl, ?_, ?_, ?_, HB3.out.trans (((Only.refl g w3).setCell 2 _).below hgB hBw3)⟩
        · show Strm _ g { { tN s i k with closers := cl, state := 1, onPath := bump s false } with broken := false }
          rw [← HT.out]
          have h9 := HS3.out.closers cl
          have e9 : ({ { T with state := 1 } with closers := cl } : Str) = { { T with closers := cl, state := 1, onPath := bump s false } with broken := false } := by
            have h7 : bump s false = T.onPath := HTo.out.symm
            rw [h7, ← HTb.out]
          rw [e9] at h9; exact h9
        · exact own_strm HK3.out HS3.out (by decide) ((Only.refl g w3).setCell 2 _)
        · exact own_strm HCw.out HS3.out (by decide) ((Only.refl g w3).setCell 2 _)
  by_cases h91 : Pl.bt zs i = 91
  · have HTab1 : Hid (s.closers.n = 10000 → table s C zs i used ended bad phn = ⟨zs.length, true, fun k cl => { tN s i k with closers := cl }, kN s C.kept, C.closers⟩) := by
      intro h; unfold table; rw [if_pos (Or.inr h91), if_pos h]
    have HTab2 : Hid (¬ s.closers.n = 10000 → table s C zs i used ended bad phn = ⟨((i + 1 : Nat) : Int), false, fun k cl => { tN s i k with closers := cl, state := 4, onPath := bump s en }, kN s C.kept, C.closers ++ [93]⟩) := by
      intro h; unfold table; rw [if_pos (Or.inr h91), if_neg h, HEn.out, if_neg h123, if_neg h123]
    rw [h91] at hcell1
    clear h123 h91
    have d2 : w1.cell? ⟨g, 2, none⟩ = some s.closers.v := by rw [← HTc.out]; exact HS1.out.cell 2
    by_cases hcn' : s.closers.n = 10000
    · have hcb : ((s.closers.n : Int) == 10000) = true := by rw [beq_iff_eq]; omega
      have HTab : Hid (_) := HTab1.out hcn'
      clear hcn'
      go_wp2_with fail
      refine (fail_any g T _ _ _ _ HS1.out).mono ?_
      rintro e w2 ⟨rfl, hw⟩
      subst hw
      go_wp2_with fail
      go_ret
      rw [HTab.out]
      exact HFin0.out _ rfl rfl (fun _ _ => rfl) rfl rfl
    · have hcb : ((s.closers.n : Int) == 10000) = false := by rw [beq_eq_false_iff_ne]; omega
      have HTab : Hid (_) := HTab2.out hcn'
      clear hcn' HTab1 HTab2 HFin0
      have d4 : w1.cell? ⟨g, 4, none⟩ = some (.int .u8 T.state) := HS1.out.cell 4
      have e4 := HS1.out.free 4
      obtain ⟨i0, hi0, hz0, hz1, hz2'⟩ := info_parts Try.info5
      have hcap : s.closers.c < s.closers.n + 1 := by rw [HClC.out]; omega
      have HH4 : Hid (s.closers.a = none → s.closers.n = 0 ∧ s.closers.c = 0) := by
        intro hn
        obtain ⟨_, ⟨h1, h2⟩ | ⟨g', cap, cur, h1, _⟩⟩ := HCl1.out
        · exact ⟨h2, by rw [HClC.out]; exact h2⟩
        · simp [Sl.v, hn] at h1
      have hcl1 := HCl1.out
      have HLen : Hid (C.closers.length = s.closers.n) := by show _ = _; have := owns_len hcl1; rwa [bys_length] at this
      clear hcl1
      go_upto_region 21 with fail
      obtain ⟨W2, hW2⟩ : ∃ W, W = (w1.setCell ⟨g, 4, none⟩ (.int .u8 1)).setCell ⟨g, 4, none⟩ (.int .u8 4) := ⟨_, rfl⟩
      rw [← hW2]
      have HS2 : Hid (Strm W2 g { T with state := 4 }) := by rw [hW2]; exact (HS1.out.state 1).state 4
      have HO2 : Hid (Only g w1 W2) := by rw [hW2]; exact ((Only.refl g w1).setCell 4 _).setCell 4 _
      have HCl2 : Hid (W2.ownsRow 0 5 1 s.closers.v s.closers.n (bys C.closers)) := own_strm HCl1.out HS1.out (by decide) HO2.out
      have HK2 : Hid (W2.ownsRow wm.heap.size 5 1 k.v k.n (bys (kN s C.kept))) := own_strm HK1.out HS1.out (by decide) HO2.out
      have HB2 : Hid (Below wm.heap.size wm W2) := HB1.out.trans (HO2.out.below hgB hBw1)
      have x2 : W2.cell? ⟨g, 2, none⟩ = some s.closers.v := by rw [← HTc.out]; exact HS2.out.cell 2
      have HH1 : Hid (∀ b', s.closers.a = some b' → ∀ j u, (bys C.closers)[j]? = some u → (W2.alloc (.cells #[.int .u8 93] 5)).cell? (b'.add j) = some u) := by
        intro b' hb' j u hj
        have hk2 := owns_below HCl2.out ((Below.refl W2.heap.size W2).alloc (Nat.le_refl _) (.cells #[.int .u8 93] 5))
        obtain ⟨_, ⟨h1, h2⟩ | ⟨g', cap, cur, h1, _⟩⟩ := hk2
        · simp [Sl.v, hb'] at h1
        · have hlt : j < s.closers.n := by
            have := (List.getElem?_eq_some_iff.1 hj).1
            rw [bys_length, HLen.out] at this; exact this
          have hk3 := owns_below HCl2.out ((Below.refl W2.heap.size W2).alloc (Nat.le_refl _) (.cells #[.int .u8 93] 5))
          simp [Sl.v] at h1
          obtain ⟨ha, hc⟩ := h1
          rw [ha] at hb'
          obtain rfl := Option.some.inj hb'
          rw [addr_plain, Nat.zero_add]
          unfold Sl.v at hk3
          rw [ha] at hk3
          rw [hk3.cellAt j (by omega)]; exact hj
      clear hW2 HS1 HO2 HCl1 HK1 d4 e4 d2
      repeat (first | (at_builtin; fail) | ((fail_if_success at_builtin); first | go_values | go_skip | go_guarded | go_step | go_upon))
      refine wpList_append_grows _ rfl _ _ 22 rfl 5 i0 (.int .u8 0) 1 1 Try.underlying22 hi0 hz0 hz1 hz2' rfl (by decide) s.closers.a s.closers.n s.closers.c (bys C.closers) rfl HH4.out (by rw [bys_length, HLen.out]; omega) HH1.out ⟨W2.heap.size, 0, none⟩ 1 1 [.int .u8 93] rfl rfl (cell_one_new _ _ _) (ints_oneCell .u8 [93]) hcap (by unfold maxLen; omega) (by omega) ?_
      intro v' w3 hown hgrow
      obtain ⟨cl, rfl, hcln, _⟩ := owns_sl hown
      have b3 : Below W2.heap.size W2 w3 := ((Below.refl W2.heap.size W2).alloc (Nat.le_refl _) (.cells #[.int .u8 93] 5)).grown hgrow (by simp) (fun k h => by cases h)
      have HS3 : Hid (Strm w3 g { T with state := 4 }) := HS2.out.below b3
      have HCw : Hid (w3.ownsRow 0 5 1 cl.v cl.n (bys (C.closers ++ [93]))) := by
        rw [hcln, show bys (C.closers ++ [93]) = bys C.closers ++ [.int .u8 93] from List.map_append]
        exact own_base0 hown (Nat.zero_le _)
      have HK3 : Hid (w3.ownsRow wm.heap.size 5 1 k.v k.n (bys (kN s C.kept))) := owns_below HK2.out b3
      have HB3 : Hid (Below wm.heap.size wm w3) := HB2.out.trans (b3.mono HB2.out.size)
      have hBw3 : wm.heap.size ≤ w3.heap.size := HB3.out.size
      have y2 : w3.cell? ⟨g, 2, none⟩ = some s.closers.v := by rw [← HTc.out]; exact HS3.out.cell 2
      have z2 : w3.frozen? ⟨g, 2, none⟩ = false := HS3.out.free 2
      have y3 : w3.cell? ⟨g, 3, none⟩ = some (.int .i64 s.onPath) := by rw [← HTo.out]; exact HS3.out.cell 3
      have z3 : w3.frozen? ⟨g, 3, none⟩ = false := HS3.out.free 3
      clear hcln hown hgrow b3 HK2 HB2 HS2 x2 HCl2 HH1 hi0 hz0 hz1 hz2'
      cases en with
      | true =>
        go_wp2_with fail
        go_ret
        rw [HTab.out]
        refine ⟨k, cl, rfl, ?_, ?_, ?_, HB3.out.trans ((((Only.refl g w3).setCell 2 _).setCell 3 _).below hgB hBw3)⟩
        · show Strm _ g { { tN s i k with closers := cl, state := 4, onPath := bump s true } with broken := false }
          rw [← HT.out]
          have h9 := (HS3.out.closers cl).onPath (wrap64 (s.onPath + 1))
          have e9 : ({ { { T with state := 4 } with closers := cl } with onPath := wrap64 (s.onPath + 1) } : Str) = { { T with closers := cl, state := 4, onPath := bump s true } with broken := false } := by rw [← HTb.out]; rfl
          rw [e9] at h9; exact h9
        · exact own_strm HK3.out HS3.out (by decide) (((Only.refl g w3).setCell 2 _).setCell 3 _)
        · exact own_strm HCw.out HS3.out (by decide) (((Only.refl g w3).setCell 2 _).setCell 3 _)
      | false =>
        go_wp2_with fail
        go_ret
        rw [HTab.out]
        refine ⟨k, cl, rfl, ?_, ?_, ?_, HB3.out.trans (((Only.refl g w3).setCell 2 _).below hgB hBw3)⟩
        · show Strm _ g { { tN s i k with closers := cl, state := 4, onPath := bump s false } with broken := false }
          rw [← HT.out]
          have h9 := HS3.out.closers cl
          have e9 : ({ { T with state := 4 } with closers := cl } : Str) = { { T with closers := cl, state := 4, onPath := bump s false } with broken := false } := by
            have h7 : bump s false = T.onPath := HTo.out.symm
            rw [h7, ← HTb.out]
          rw [e9] at h9; exact h9
        · exact own_strm HK3.out HS3.out (by decide) ((Only.refl g w3).setCell 2 _)
        · exact own_strm HCw.out HS3.out (by decide) ((Only.refl g w3).setCell 2 _)
  by_cases h34 : Pl.bt zs i = 34
  · have HTab : Hid (table s C zs i used ended bad phn = ⟨((i + 1 : Nat) : Int), false, fun k cl => { tN s i k with closers := cl, isName := false, naming := false, state := 8 }, kN s C.kept, C.closers⟩) := by
      show _ = _; unfold table; rw [if_neg (by omega), if_pos h34]
    rw [h34] at hcell1
    clear h123 h91 h34 HFin0
    have d9 : w1.cell? ⟨g, 9, none⟩ = some (.bool T.isName) := HS1.out.cell 9
    have e9 := HS1.out.free 9
    have d10 : w1.cell? ⟨g, 10, none⟩ = some (.bool T.naming) := HS1.out.cell 10
    have e10 := HS1.out.free 10
    have d4 : w1.cell? ⟨g, 4, none⟩ = some (.int .u8 T.state) := HS1.out.cell 4
    have e4 := HS1.out.free 4
    go_wp2_with fail
    go_ret
    rw [HTab.out]
    have hO := ((((Only.refl g w1).setCell 9 (.bool false)).setCell 10 (.bool false)).setCell 4 (.int .u8 8))
    refine ⟨k, s.closers, rfl, ?_, own_strm HK1.out HS1.out (by decide) hO, own_strm HCl1.out HS1.out (by decide) hO, HB1.out.trans (hO.below hgB hBw1)⟩
    show Strm _ g { { tN s i k with closers := s.closers, isName := false, naming := false, state := 8 } with broken := false }
    rw [← HT.out, ← HTc.out]
    have h9 := ((HS1.out.isName false).naming false).state 8
    have e9 : ({ T with isName := false, naming := false, state := 8 } : Str) = { { T with closers := T.closers, isName := false, naming := false, state := 8 } with broken := false } := by rw [← HTb.out]
    exact e9 ▸ h9
  by_cases h116 : Pl.bt zs i = 116
  · have HTab : Hid (table s C zs i used ended bad phn = ⟨((i + 1 : Nat) : Int), false, fun k cl => { tN s i k with closers := cl, word := ⟨#[114, 117, 101]⟩, state := 10 }, kN s C.kept, C.closers⟩) := by
      show _ = _; unfold table; rw [if_neg (by omega), if_neg (by omega), if_pos h116]
    rw [h116] at hcell1
    clear h123 h91 h34 h116 HFin0
    have d6 : w1.cell? ⟨g, 6, none⟩ = some (.string T.word) := HS1.out.cell 6
    have e6 := HS1.out.free 6
    have d4 : w1.cell? ⟨g, 4, none⟩ = some (.int .u8 T.state) := HS1.out.cell 4
    have e4 := HS1.out.free 4
    go_wp2_with fail
    go_ret
    rw [HTab.out]
    have hO := (((Only.refl g w1).setCell 6 (.string ⟨#[114, 117, 101]⟩)).setCell 4 (.int .u8 10))
    refine ⟨k, s.closers, rfl, ?_, own_strm HK1.out HS1.out (by decide) hO, own_strm HCl1.out HS1.out (by decide) hO, HB1.out.trans (hO.below hgB hBw1)⟩
    show Strm _ g { { tN s i k with closers := s.closers, word := ⟨#[114, 117, 101]⟩, state := 10 } with broken := false }
    rw [← HT.out, ← HTc.out]
    have h9 := (HS1.out.word ⟨#[114, 117, 101]⟩).state 10
    have e9 : ({ T with word := ⟨#[114, 117, 101]⟩, state := 10 } : Str) = { { T with closers := T.closers, word := ⟨#[114, 117, 101]⟩, state := 10 } with broken := false } := by rw [← HTb.out]
    exact e9 ▸ h9
  by_cases h102 : Pl.bt zs i = 102
  · have HTab : Hid (table s C zs i used ended bad phn = ⟨((i + 1 : Nat) : Int), false, fun k cl => { tN s i k with closers := cl, word := ⟨#[97, 108, 115, 101]⟩, state := 10 }, kN s C.kept, C.closers⟩) := by
      show _ = _; unfold table; rw [if_neg (by omega), if_neg (by omega), if_neg (by omega), if_pos h102]
    rw [h102] at hcell1
    clear h123 h91 h34 h116 h102 HFin0
    have d6 : w1.cell? ⟨g, 6, none⟩ = some (.string T.word) := HS1.out.cell 6
    have e6 := HS1.out.free 6
    have d4 : w1.cell? ⟨g, 4, none⟩ = some (.int .u8 T.state) := HS1.out.cell 4
    have e4 := HS1.out.free 4
    go_wp2_with fail
    go_ret
    rw [HTab.out]
    have hO := (((Only.refl g w1).setCell 6 (.string ⟨#[97, 108, 115, 101]⟩)).setCell 4 (.int .u8 10))
    refine ⟨k, s.closers, rfl, ?_, own_strm HK1.out HS1.out (by decide) hO, own_strm HCl1.out HS1.out (by decide) hO, HB1.out.trans (hO.below hgB hBw1)⟩
    show Strm _ g { { tN s i k with closers := s.closers, word := ⟨#[97, 108, 115, 101]⟩, state := 10 } with broken := false }
    rw [← HT.out, ← HTc.out]
    have h9 := (HS1.out.word ⟨#[97, 108, 115, 101]⟩).state 10
    have e9 : ({ T with word := ⟨#[97, 108, 115, 101]⟩, state := 10 } : Str) = { { T with closers := T.closers, word := ⟨#[97, 108, 115, 101]⟩, state := 10 } with broken := false } := by rw [← HTb.out]
    exact e9 ▸ h9
  by_cases h110 : Pl.bt zs i = 110
  · have HTab : Hid (table s C zs i used ended bad phn = ⟨((i + 1 : Nat) : Int), false, fun k cl => { tN s i k with closers := cl, word := ⟨#[117, 108, 108]⟩, state := 10 }, kN s C.kept, C.closers⟩) := by
      show _ = _; unfold table; rw [if_neg (by omega), if_neg (by omega), if_neg (by omega), if_neg (by omega), if_pos h110]
    rw [h110] at hcell1
    clear h123 h91 h34 h116 h102 h110 HFin0
    have d6 : w1.cell? ⟨g, 6, none⟩ = some (.string T.word) := HS1.out.cell 6
    have e6 := HS1.out.free 6
    have d4 : w1.cell? ⟨g, 4, none⟩ = some (.int .u8 T.state) := HS1.out.cell 4
    have e4 := HS1.out.free 4
    go_wp2_with fail
    go_ret
    rw [HTab.out]
    have hO := (((Only.refl g w1).setCell 6 (.string ⟨#[117, 108, 108]⟩)).setCell 4 (.int .u8 10))
    refine ⟨k, s.closers, rfl, ?_, own_strm HK1.out HS1.out (by decide) hO, own_strm HCl1.out HS1.out (by decide) hO, HB1.out.trans (hO.below hgB hBw1)⟩
    show Strm _ g { { tN s i k with closers := s.closers, word := ⟨#[117, 108, 108]⟩, state := 10 } with broken := false }
    rw [← HT.out, ← HTc.out]
    have h9 := (HS1.out.word ⟨#[117, 108, 108]⟩).state 10
    have e9 : ({ T with word := ⟨#[117, 108, 108]⟩, state := 10 } : Str) = { { T with closers := T.closers, word := ⟨#[117, 108, 108]⟩, state := 10 } with broken := false } := by rw [← HTb.out]
    exact e9 ▸ h9
  by_cases h45 : Pl.bt zs i = 45
  · have hnum : numc (Pl.bt zs i) = true := by unfold numc; rw [h45]; rfl
    have hsc0 := HSc.out hnum
    have hphc : phc (Pl.bt zs i) = 0 := by unfold phc; rw [if_pos h45]
    rw [hphc] at hsc0
    have HTab : Hid (table s C zs i used ended bad phn = ⟨if ended then ((i + 1 : Nat) : Int) + used else zs.length, bad,
      fun k cl => { fin ended { tN s i k with number := (phn : Nat), state := 9 } (kN s C.kept) zs (((i + 1 : Nat) : Int) + used).toNat k with closers := cl },
      finC ended { tN s i nilS with number := (phn : Nat), state := 9 } (kN s C.kept) zs (((i + 1 : Nat) : Int) + used).toNat, C.closers⟩) := by
      show _ = _; unfold table; rw [if_neg (by omega), if_neg (by omega), if_neg (by omega), if_neg (by omega), if_neg (by omega), if_pos hnum]
    have hf0 : { T with number := ((0 : Nat) : Int), state := 9 }.keepDepth = (({ T with number := ((0 : Nat) : Int), state := 9 } : Str).closers.n : Int) → 0 ≤ ({ T with number := ((0 : Nat) : Int), state := 9 } : Str).keepFrom ∧ ({ T with number := ((0 : Nat) : Int), state := 9 } : Str).keepFrom ≤ ((i + 1 : Nat) : Int) := by
      show T.keepDepth = (T.closers.n : Int) → 0 ≤ T.keepFrom ∧ T.keepFrom ≤ ((i + 1 : Nat) : Int)
      rw [HTc.out]
      exact tN_from HT.out (HF.out hnum)
    have HRM : Hid (Calls Try.prog 40 #[.pointer (some ⟨g, 0, none⟩), .slice (some ⟨b, off, none⟩) zs.length zs.length, .int .i64 ((i + 1 : Nat) : Int)] ((w1.setCell ⟨g, 5, none⟩ (.int .u8 ((0 : Nat) : Int))).setCell ⟨g, 4, none⟩ (.int .u8 9)) fun e w' =>
        RM2 wm.heap.size g (i + 1) zs (kN s C.kept) { T with number := ((0 : Nat) : Int), state := 9 } used ended bad phn ((w1.setCell ⟨g, 5, none⟩ (.int .u8 ((0 : Nat) : Int))).setCell ⟨g, 4, none⟩ (.int .u8 9)) e w') := by
      have hO : Only g w1 ((w1.setCell ⟨g, 5, none⟩ (.int .u8 ((0 : Nat) : Int))).setCell ⟨g, 4, none⟩ (.int .u8 9)) := ((Only.refl g w1).setCell 5 _).setCell 4 _
      refine rest_model2 wm.heap.size g (i + 1) 0 (some ⟨b, off, none⟩) zs (kN s C.kept) { T with number := ((0 : Nat) : Int), state := 9 } _ used ended bad phn ((HS1.out.number _).state 9) hgB ?_ (own_strm (owns_below HP.out HB1.out) HS1.out (by decide) hO) (by decide) rfl HTb.out hi (Nat.le_trans (Nat.add_le_add_right (kN_le s C.kept) _) hz) hf0 hsc0
      show World.ownsRow _ wm.heap.size 5 1 T.kept.v T.kept.n (bys (kN s C.kept))
      rw [HTk.out]
      exact own_strm HK1.out HS1.out (by decide) hO
    have HB2 : Hid (Below wm.heap.size wm ((w1.setCell ⟨g, 5, none⟩ (.int .u8 ((0 : Nat) : Int))).setCell ⟨g, 4, none⟩ (.int .u8 9))) := HB1.out.trans ((((Only.refl g w1).setCell 5 _).setCell 4 _).below hgB hBw1)
    have d5 : w1.cell? ⟨g, 5, none⟩ = some (.int .u8 T.number) := HS1.out.cell 5
    have d4 : w1.cell? ⟨g, 4, none⟩ = some (.int .u8 T.state) := HS1.out.cell 4
    have e5 := HS1.out.free 5
    have e4 := HS1.out.free 4
    rw [h45] at hcell1
    clear hsc0 hphc hf0 hnum HFin0 h123 h91 h34 h116 h102 h110 h45
    go_wp2_with fail
    refine HRM.out.mono ?_
    rintro e w2 ⟨k2, he, hst, hk2, hb2⟩
    obtain ⟨R, hR⟩ : ∃ R : Int, R = (if ended then ((i + 1 : Nat) : Int) + used else zs.length) := ⟨_, rfl⟩
    rw [← hR] at he
    subst he
    have HB3 : Hid (Below wm.heap.size wm w2) := HB2.out.trans hb2
    have HBV : Hid (BV wm g (table s C zs i used ended bad phn) (.returned (.int .i64 R)) w2) := by
      rw [HTab.out, hR]
      refine ⟨k2, s.closers, rfl, ?_, ?_, ?_, HB3.out⟩
      · have h9 := num_S HT.out HTc.out ended bad phn (kN s C.kept) zs (((i + 1 : Nat) : Int) + used).toNat k2 ((0 : Nat) : Int)
        rw [h9] at hst; exact hst
      · have h8 := num_C HT.out ended phn (kN s C.kept) zs (((i + 1 : Nat) : Int) + used).toNat ((0 : Nat) : Int)
        rw [h8] at hk2; exact hk2
      · exact owns_below HCl.out HB3.out
    clear hst hk2 hb2 HRM hR
    go_wp2_with fail
    go_ret
    exact HBV.out
  by_cases h48 : Pl.bt zs i = 48
  · have hnum : numc (Pl.bt zs i) = true := by unfold numc; rw [h48]; rfl
    have hsc0 := HSc.out hnum
    have hphc : phc (Pl.bt zs i) = 1 := by unfold phc; rw [if_neg h45, if_pos h48]
    rw [hphc] at hsc0
    have HTab : Hid (table s C zs i used ended bad phn = ⟨if ended then ((i + 1 : Nat) : Int) + used else zs.length, bad,
      fun k cl => { fin ended { tN s i k with number := (phn : Nat), state := 9 } (kN s C.kept) zs (((i + 1 : Nat) : Int) + used).toNat k with closers := cl },
      finC ended { tN s i nilS with number := (phn : Nat), state := 9 } (kN s C.kept) zs (((i + 1 : Nat) : Int) + used).toNat, C.closers⟩) := by
      show _ = _; unfold table; rw [if_neg (by omega), if_neg (by omega), if_neg (by omega), if_neg (by omega), if_neg (by omega), if_pos hnum]
    have hf0 : { T with number := ((1 : Nat) : Int), state := 9 }.keepDepth = (({ T with number := ((1 : Nat) : Int), state := 9 } : Str).closers.n : Int) → 0 ≤ ({ T with number := ((1 : Nat) : Int), state := 9 } : Str).keepFrom ∧ ({ T with number := ((1 : Nat) : Int), state := 9 } : Str).keepFrom ≤ ((i + 1 : Nat) : Int) := by
      show T.keepDepth = (T.closers.n : Int) → 0 ≤ T.keepFrom ∧ T.keepFrom ≤ ((i + 1 : Nat) : Int)
      rw [HTc.out]
      exact tN_from HT.out (HF.out hnum)
    have HRM : Hid (Calls Try.prog 40 #[.pointer (some ⟨g, 0, none⟩), .slice (some ⟨b, off, none⟩) zs.length zs.length, .int .i64 ((i + 1 : Nat) : Int)] ((w1.setCell ⟨g, 5, none⟩ (.int .u8 ((1 : Nat) : Int))).setCell ⟨g, 4, none⟩ (.int .u8 9)) fun e w' =>
        RM2 wm.heap.size g (i + 1) zs (kN s C.kept) { T with number := ((1 : Nat) : Int), state := 9 } used ended bad phn ((w1.setCell ⟨g, 5, none⟩ (.int .u8 ((1 : Nat) : Int))).setCell ⟨g, 4, none⟩ (.int .u8 9)) e w') := by
      have hO : Only g w1 ((w1.setCell ⟨g, 5, none⟩ (.int .u8 ((1 : Nat) : Int))).setCell ⟨g, 4, none⟩ (.int .u8 9)) := ((Only.refl g w1).setCell 5 _).setCell 4 _
      refine rest_model2 wm.heap.size g (i + 1) 1 (some ⟨b, off, none⟩) zs (kN s C.kept) { T with number := ((1 : Nat) : Int), state := 9 } _ used ended bad phn ((HS1.out.number _).state 9) hgB ?_ (own_strm (owns_below HP.out HB1.out) HS1.out (by decide) hO) (by decide) rfl HTb.out hi (Nat.le_trans (Nat.add_le_add_right (kN_le s C.kept) _) hz) hf0 hsc0
      show World.ownsRow _ wm.heap.size 5 1 T.kept.v T.kept.n (bys (kN s C.kept))
      rw [HTk.out]
      exact own_strm HK1.out HS1.out (by decide) hO
    have HB2 : Hid (Below wm.heap.size wm ((w1.setCell ⟨g, 5, none⟩ (.int .u8 ((1 : Nat) : Int))).setCell ⟨g, 4, none⟩ (.int .u8 9))) := HB1.out.trans ((((Only.refl g w1).setCell 5 _).setCell 4 _).below hgB hBw1)
    have d5 : w1.cell? ⟨g, 5, none⟩ = some (.int .u8 T.number) := HS1.out.cell 5
    have d4 : w1.cell? ⟨g, 4, none⟩ = some (.int .u8 T.state) := HS1.out.cell 4
    have e5 := HS1.out.free 5
    have e4 := HS1.out.free 4
    rw [h48] at hcell1
    clear hsc0 hphc hf0 hnum HFin0 h123 h91 h34 h116 h102 h110 h45 h48
    go_wp2_with fail
    refine HRM.out.mono ?_
    rintro e w2 ⟨k2, he, hst, hk2, hb2⟩
    obtain ⟨R, hR⟩ : ∃ R : Int, R = (if ended then ((i + 1 : Nat) : Int) + used else zs.length) := ⟨_, rfl⟩
    rw [← hR] at he
    subst he
    have HB3 : Hid (Below wm.heap.size wm w2) := HB2.out.trans hb2
    have HBV : Hid (BV wm g (table s C zs i used ended bad phn) (.returned (.int .i64 R)) w2) := by
      rw [HTab.out, hR]
      refine ⟨k2, s.closers, rfl, ?_, ?_, ?_, HB3.out⟩
      · have h9 := num_S HT.out HTc.out ended bad phn (kN s C.kept) zs (((i + 1 : Nat) : Int) + used).toNat k2 ((1 : Nat) : Int)
        rw [h9] at hst; exact hst
      · have h8 := num_C HT.out ended phn (kN s C.kept) zs (((i + 1 : Nat) : Int) + used).toNat ((1 : Nat) : Int)
        rw [h8] at hk2; exact hk2
      · exact owns_below HCl.out HB3.out
    clear hst hk2 hb2 HRM hR
    go_wp2_with fail
    go_ret
    exact HBV.out
  by_cases hd : 49 ≤ Pl.bt zs i ∧ Pl.bt zs i ≤ 57
  · have hnum : numc (Pl.bt zs i) = true := by unfold numc; rw [Bool.or_eq_true]; exact Or.inr ((Pl.dig_iff _).2 ⟨by omega, hd.2⟩)
    obtain ⟨hd1, hd2⟩ := hd
    have hsc0 := HSc.out hnum
    have hphc : phc (Pl.bt zs i) = 2 := by unfold phc; rw [if_neg h45, if_neg h48]
    rw [hphc] at hsc0
    have HTab : Hid (table s C zs i used ended bad phn = ⟨if ended then ((i + 1 : Nat) : Int) + used else zs.length, bad,
      fun k cl => { fin ended { tN s i k with number := (phn : Nat), state := 9 } (kN s C.kept) zs (((i + 1 : Nat) : Int) + used).toNat k with closers := cl },
      finC ended { tN s i nilS with number := (phn : Nat), state := 9 } (kN s C.kept) zs (((i + 1 : Nat) : Int) + used).toNat, C.closers⟩) := by
      show _ = _; unfold table; rw [if_neg (by omega), if_neg (by omega), if_neg (by omega), if_neg (by omega), if_neg (by omega), if_pos hnum]
    have hf0 : { T with number := ((2 : Nat) : Int), state := 9 }.keepDepth = (({ T with number := ((2 : Nat) : Int), state := 9 } : Str).closers.n : Int) → 0 ≤ ({ T with number := ((2 : Nat) : Int), state := 9 } : Str).keepFrom ∧ ({ T with number := ((2 : Nat) : Int), state := 9 } : Str).keepFrom ≤ ((i + 1 : Nat) : Int) := by
      show T.keepDepth = (T.closers.n : Int) → 0 ≤ T.keepFrom ∧ T.keepFrom ≤ ((i + 1 : Nat) : Int)
      rw [HTc.out]
      exact tN_from HT.out (HF.out hnum)
    have HRM : Hid (Calls Try.prog 40 #[.pointer (some ⟨g, 0, none⟩), .slice (some ⟨b, off, none⟩) zs.length zs.length, .int .i64 ((i + 1 : Nat) : Int)] ((w1.setCell ⟨g, 5, none⟩ (.int .u8 ((2 : Nat) : Int))).setCell ⟨g, 4, none⟩ (.int .u8 9)) fun e w' =>
        RM2 wm.heap.size g (i + 1) zs (kN s C.kept) { T with number := ((2 : Nat) : Int), state := 9 } used ended bad phn ((w1.setCell ⟨g, 5, none⟩ (.int .u8 ((2 : Nat) : Int))).setCell ⟨g, 4, none⟩ (.int .u8 9)) e w') := by
      have hO : Only g w1 ((w1.setCell ⟨g, 5, none⟩ (.int .u8 ((2 : Nat) : Int))).setCell ⟨g, 4, none⟩ (.int .u8 9)) := ((Only.refl g w1).setCell 5 _).setCell 4 _
      refine rest_model2 wm.heap.size g (i + 1) 2 (some ⟨b, off, none⟩) zs (kN s C.kept) { T with number := ((2 : Nat) : Int), state := 9 } _ used ended bad phn ((HS1.out.number _).state 9) hgB ?_ (own_strm (owns_below HP.out HB1.out) HS1.out (by decide) hO) (by decide) rfl HTb.out hi (Nat.le_trans (Nat.add_le_add_right (kN_le s C.kept) _) hz) hf0 hsc0
      show World.ownsRow _ wm.heap.size 5 1 T.kept.v T.kept.n (bys (kN s C.kept))
      rw [HTk.out]
      exact own_strm HK1.out HS1.out (by decide) hO
    have HB2 : Hid (Below wm.heap.size wm ((w1.setCell ⟨g, 5, none⟩ (.int .u8 ((2 : Nat) : Int))).setCell ⟨g, 4, none⟩ (.int .u8 9))) := HB1.out.trans ((((Only.refl g w1).setCell 5 _).setCell 4 _).below hgB hBw1)
    have d5 : w1.cell? ⟨g, 5, none⟩ = some (.int .u8 T.number) := HS1.out.cell 5
    have d4 : w1.cell? ⟨g, 4, none⟩ = some (.int .u8 T.state) := HS1.out.cell 4
    have e5 := HS1.out.free 5
    have e4 := HS1.out.free 4
    clear hsc0 hphc hf0 hnum HFin0 HEn HF HSc
    have n1 : (Pl.bt zs i == 123) = false := by rw [beq_eq_false_iff_ne]; exact h123
    have n2 : (Pl.bt zs i == 91) = false := by rw [beq_eq_false_iff_ne]; exact h91
    have n3 : (Pl.bt zs i == 34) = false := by rw [beq_eq_false_iff_ne]; exact h34
    have n4 : (Pl.bt zs i == 116) = false := by rw [beq_eq_false_iff_ne]; exact h116
    have n5 : (Pl.bt zs i == 102) = false := by rw [beq_eq_false_iff_ne]; exact h102
    have n6 : (Pl.bt zs i == 110) = false := by rw [beq_eq_false_iff_ne]; exact h110
    have n7 : (Pl.bt zs i == 45) = false := by rw [beq_eq_false_iff_ne]; exact h45
    have n8 : (Pl.bt zs i == 48) = false := by rw [beq_eq_false_iff_ne]; exact h48
    clear h123 h91 h34 h116 h102 h110 h45 h48
    go_wp2_with fail
    refine HRM.out.mono ?_
    rintro e w2 ⟨k2, he, hst, hk2, hb2⟩
    obtain ⟨R, hR⟩ : ∃ R : Int, R = (if ended then ((i + 1 : Nat) : Int) + used else zs.length) := ⟨_, rfl⟩
    rw [← hR] at he
    subst he
    have HB3 : Hid (Below wm.heap.size wm w2) := HB2.out.trans hb2
    have HBV : Hid (BV wm g (table s C zs i used ended bad phn) (.returned (.int .i64 R)) w2) := by
      rw [HTab.out, hR]
      refine ⟨k2, s.closers, rfl, ?_, ?_, ?_, HB3.out⟩
      · have h9 := num_S HT.out HTc.out ended bad phn (kN s C.kept) zs (((i + 1 : Nat) : Int) + used).toNat k2 ((2 : Nat) : Int)
        rw [h9] at hst; exact hst
      · have h8 := num_C HT.out ended phn (kN s C.kept) zs (((i + 1 : Nat) : Int) + used).toNat ((2 : Nat) : Int)
        rw [h8] at hk2; exact hk2
      · exact owns_below HCl.out HB3.out
    clear hst hk2 hb2 HRM hR
    go_wp2_with fail
    go_ret
    exact HBV.out
  have hnum : ¬ numc (Pl.bt zs i) = true := by
    intro h
    unfold numc at h
    rw [Bool.or_eq_true, beq_iff_eq, Pl.dig_iff] at h
    omega
  have HTab : Hid (table s C zs i used ended bad phn = ⟨zs.length, true, fun k cl => { tN s i k with closers := cl }, kN s C.kept, C.closers⟩) := by
    show _ = _; unfold table; rw [if_neg (by omega), if_neg (by omega), if_neg (by omega), if_neg (by omega), if_neg (by omega), if_neg hnum]
  have n1 : (Pl.bt zs i == 123) = false := by rw [beq_eq_false_iff_ne]; exact h123
  have n2 : (Pl.bt zs i == 91) = false := by rw [beq_eq_false_iff_ne]; exact h91
  have n3 : (Pl.bt zs i == 34) = false := by rw [beq_eq_false_iff_ne]; exact h34
  have n4 : (Pl.bt zs i == 116) = false := by rw [beq_eq_false_iff_ne]; exact h116
  have n5 : (Pl.bt zs i == 102) = false := by rw [beq_eq_false_iff_ne]; exact h102
  have n6 : (Pl.bt zs i == 110) = false := by rw [beq_eq_false_iff_ne]; exact h110
  have n7 : (Pl.bt zs i == 45) = false := by rw [beq_eq_false_iff_ne]; exact h45
  have n8 : (Pl.bt zs i == 48) = false := by rw [beq_eq_false_iff_ne]; exact h48
  by_cases hlo : 49 ≤ Pl.bt zs i
  · have hhi : ¬ Pl.bt zs i ≤ 57 := fun h => hd ⟨hlo, h⟩
    clear h123 h91 h34 h116 h102 h110 h45 h48 hd hnum HEn HF HSc
    go_wp2_with fail
    refine (fail_any g T _ _ _ _ HS1.out).mono ?_
    rintro e w2 ⟨rfl, hw⟩
    subst hw
    go_wp2_with fail
    go_ret
    rw [HTab.out]
    exact HFin0.out _ rfl rfl (fun _ _ => rfl) rfl rfl
  · clear h123 h91 h34 h116 h102 h110 h45 h48 hd hnum HEn HF HSc
    go_wp2_with fail
    refine (fail_any g T _ _ _ _ HS1.out).mono ?_
    rintro e w2 ⟨rfl, hw⟩
    subst hw
    go_wp2_with fail
    go_ret
    rw [HTab.out]
    exact HFin0.out _ rfl rfl (fun _ _ => rfl) rfl rfl
end Go.Proofs.Qxb6602575a
