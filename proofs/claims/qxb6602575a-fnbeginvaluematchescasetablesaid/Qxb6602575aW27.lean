import Derived.Test.Qxb6602575aW25
namespace Go.Proofs.Qxb6602575a
open Go.RowKit

/-- What keep leaves, the kept slice whatever its capacity: blocks below B stay. -/
def KP2 (B g : Nat) (s : Str) (ks bs : List Int) (w : World) (e : Ending) (w' : World) : Prop :=
  e = .returned (.tuple #[]) ∧ ∃ k : Sl, Strm w' g { s with over := keepO ks.length s.over bs.length s.limit, kept := k } ∧ w'.ownsRow B 5 1 k.v k.n (bys (keepC ks s.over bs s.limit)) ∧ Below B w w'

theorem own_ge {w : World} {B e n : Nat} {k : Sl} {xs : List Value} (h : w.ownsRow B e 1 k.v n xs) : ∀ j, k.v.ownBlock = some j → B ≤ j := by
  intro j hj
  obtain ⟨_, ⟨h1, _⟩ | ⟨g', cap, cur, h1, h2, _⟩⟩ := h
  · rw [h1] at hj; cases hj
  · rw [h1] at hj; cases hj; exact h2
theorem strm_grown {w w' : World} {B g n : Nat} {s : Str} {k : Sl} {xs : List Value} (hs : Strm w g s) (h : w.ownsRow B 5 1 k.v n xs) (hg : w.grownBy w' k.v.ownBlock) : Strm w' g s := by
  unfold Strm
  rw [hg.block g hs.lt ?_]
  · exact hs
  · intro hj
    obtain ⟨_, ⟨h1, _⟩ | ⟨g', cap, cur, h1, h2, h3, _⟩⟩ := h
    · rw [h1] at hj; cases hj
    · rw [h1] at hj; cases hj
      unfold Strm at hs
      rw [hs] at h3
      simp at h3

set_option maxHeartbeats 2000000 in
set_option maxRecDepth 100000 in
theorem keep2 (B g b off cb : Nat) (s : Str) (ks bs : List Int) (w : World) (hs : Strm w g s) (hgB : B ≤ g) (hk : w.ownsRow B 5 1 s.kept.v s.kept.n (bys ks))
    (hb : ∀ i, i < bs.length → w.cell? ⟨b, off + i, none⟩ = some (.int .u8 (Pl.bt bs i))) (hz : ks.length + bs.length ≤ 1099511627776) :
    Calls Try.prog 48 #[.pointer (some ⟨g, 0, none⟩), .slice (some ⟨b, off, none⟩) bs.length cb] w fun e w' => KP2 B g s ks bs w e w' := by
  have hkn : ks.length = s.kept.n := by have := owns_len hk; rwa [bys_length] at this
  have c1 : w.cell? ⟨g, 1, none⟩ = some (.int .i64 s.limit) := hs.cell 1
  have c17 : w.cell? ⟨g, 17, none⟩ = some s.kept.v := hs.cell 17
  have c18 : w.cell? ⟨g, 18, none⟩ = some (.bool s.over) := hs.cell 18
  have f17 := hs.free 17
  have f18 := hs.free 18
  have HS : Hid (Strm w g s) := hs
  have HK : Hid (w.ownsRow B 5 1 s.kept.v s.kept.n (bys ks)) := hk
  have HKN : Hid (ks.length = s.kept.n) := hkn
  have hBw : B ≤ w.heap.size := Nat.le_of_lt (Nat.lt_of_le_of_lt hgB hs.lt)
  have HB : Hid (∀ i, i < bs.length → w.cell? ⟨b, off + i, none⟩ = some (.int .u8 (Pl.bt bs i))) := hb
  have hz2 : s.kept.n + bs.length ≤ 1099511627776 := by omega
  clear hs hk hb hkn
  cases ho : s.over with
  | true =>
    rw [ho] at c18
    have HOv : Hid (s.over = true) := ho
    clear ho
    go_enter Try.func48, Try.ntmps48
    go_wp2_with fail
    go_end0
    refine ⟨rfl, s.kept, ?_, ?_, Below.refl _ _⟩
    · have e1 : keepO ks.length s.over bs.length s.limit = s.over := by rw [HOv.out]; rfl
      rw [e1]; exact HS.out
    · have e2 : keepC ks s.over bs s.limit = ks := by rw [HOv.out]; rfl
      rw [e2]; exact HK.out
  | false =>
    rw [ho] at c18
    have HOv : Hid (s.over = false) := ho
    clear ho
    by_cases hl : s.limit < (s.kept.n : Int) + (bs.length : Int)
    · have hld : decide (s.limit < (s.kept.n : Int) + (bs.length : Int)) = true := decide_eq_true hl
      go_enter Try.func48, Try.ntmps48
      go_wp2_with fail
      go_quiet (fail)
      go_wp2_with fail
      go_region
      all_goals go_wp2_with fail
      go_end0
      have e1 : keepO ks.length s.over bs.length s.limit = true := by rw [HKN.out]; simp [keepO, hl]
      have e2 : keepC ks s.over bs s.limit = [] := by simp [keepC, HOv.out, HKN.out, hl]
      refine ⟨rfl, ⟨s.kept.a, 0, s.kept.c⟩, ?_, ?_, ((((Only.refl g w).drewN _).setCell 18 _).setCell 17 _).below hgB hBw⟩
      · rw [e1]; exact (((HS.out.drewN _).over true).kept ⟨s.kept.a, 0, s.kept.c⟩)
      · rw [e2]
        exact own_strm (owns_cut HK.out) HS.out (by decide) ((((Only.refl g w).drewN _).setCell 18 _).setCell 17 _)
    · have hld : decide (s.limit < (s.kept.n : Int) + (bs.length : Int)) = false := decide_eq_false hl
      have e1 : keepO ks.length s.over bs.length s.limit = false := by rw [HKN.out, HOv.out]; simp [keepO]; omega
      have e2 : keepC ks s.over bs s.limit = ks ++ bs := by simp [keepC, HOv.out, HKN.out, hl]
      have H1 : Hid (keepO ks.length s.over bs.length s.limit = false) := e1
      have H2 : Hid (keepC ks s.over bs s.limit = ks ++ bs) := e2
      clear e1 e2
      obtain ⟨i0, hi, hz0, hz1, hz2'⟩ := info_parts Try.info5
      have hnews : ∀ W : World, (∀ x, W.cell? x = w.cell? x) → ∀ j u, (bys bs)[j]? = some u → W.cell? ((⟨b, off, none⟩ : Addr).add j) = some u := by
        intro W hW j u hj
        have hlt : j < bs.length := by have := (List.getElem?_eq_some_iff.1 hj).1; rwa [bys_length] at this
        rw [hW, addr_plain, HB.out j hlt, ← bys_get bs j hlt]; exact hj
      have hone : ∀ u ∈ bys bs, u.oneCell' = true := by
        intro u hu; simp [bys] at hu; obtain ⟨z, _, rfl⟩ := hu; rfl
      have HH2 : Hid (∀ W : World, (∀ x, W.cell? x = w.cell? x) → ∀ j u, (bys bs)[j]? = some u → W.cell? ((⟨b, off, none⟩ : Addr).add j) = some u) := hnews
      have HH3 : Hid (∀ u ∈ bys bs, u.oneCell' = true) := hone
      clear hnews hone
      go_enter Try.func48, Try.ntmps48
      go_wp2_with fail
      go_quiet (fail)
      go_wp2_with (at_builtin; refine wpList_append_own _ rfl _ _ 22 rfl B 5 i0 (.int .u8 0) 1 1 Try.underlying22 hi hz0 hz1 hz2' rfl (by decide) s.kept.v s.kept.n (bys ks) rfl HK.out ⟨b, off, none⟩ bs.length cb (bys bs) rfl (by rw [bys_length]; omega) (HH2.out _ (fun _ => rfl)) HH3.out (by unfold maxLen; omega) (by omega) hBw ?_; intro v' w1 hown hgrow _; obtain ⟨k', rfl, hk'n, _⟩ := owns_sl hown; have HKn : Hid (k'.n = s.kept.n + bs.length) := hk'n; clear hk'n; have b1 : Below B w w1 := ((Below.refl B w).drewN' nq).grown hgrow hBw (own_ge HK.out); have HS1 : Hid (Strm w1 g s) := strm_grown (HS.out.drewN nq) HK.out hgrow; have d17 : w1.cell? ⟨g, 17, none⟩ = some s.kept.v := HS1.out.cell 17; have e17 : w1.frozen? ⟨g, 17, none⟩ = false := HS1.out.free 17)
      go_end0
      refine ⟨rfl, k', ?_, ?_, b1.trans (((Only.refl g w1).setCell 17 _).below hgB (Nat.le_trans hBw b1.size))⟩
      · rw [H1.out]
        have := HS1.out.kept k'
        have e3 : ({ s with kept := k' } : Str) = { s with over := false, kept := k' } := by rw [← HOv.out]
        rw [e3] at this; exact this
      · rw [H2.out, HKn.out]
        have h3 : w1.ownsRow B 5 1 k'.v (s.kept.n + bs.length) (bys (ks ++ bs)) := by
          rw [show bys (ks ++ bs) = bys ks ++ bys bs from List.map_append]; exact hown
        exact own_strm h3 HS1.out (by decide) ((Only.refl g w1).setCell 17 _)
end Go.Proofs.Qxb6602575a
