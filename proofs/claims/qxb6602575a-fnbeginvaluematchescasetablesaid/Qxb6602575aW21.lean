import Derived.Test.Qxb6602575aW15
import Derived.Test.Qxb6602575aW16
import Derived.ArgAppend
import Derived.RegionTactic
namespace Go.Proofs.Qxb6602575a
open Go.RowKit

theorem owns_sl {w : World} {base e n : Nat} {v : Value} {xs : List Value} (h : w.ownsRow base e 1 v n xs) : ∃ k : Sl, v = k.v ∧ k.n = n ∧ (k.a = none → k.c = 0) := by
  obtain ⟨_, ⟨h1, h2⟩ | ⟨g, cap, cur, h1, _⟩⟩ := h
  · exact ⟨nilS, h1, h2.symm, fun _ => rfl⟩
  · exact ⟨⟨some ⟨g, 0, none⟩, n, cap⟩, h1, rfl, fun h => by cases h⟩

theorem Strm.kept {w : World} {g : Nat} {s : Str} (h : Strm w g s) (k : Sl) : Strm (w.setCell ⟨g, 17, none⟩ k.v) g { s with kept := k } := h.set _ _ _ rfl
theorem Strm.over {w : World} {g : Nat} {s : Str} (h : Strm w g s) (b : Bool) : Strm (w.setCell ⟨g, 18, none⟩ (.bool b)) g { s with over := b } := h.set _ _ _ rfl
theorem Strm.keepDepth {w : World} {g : Nat} {s : Str} (h : Strm w g s) (b : Int) : Strm (w.setCell ⟨g, 15, none⟩ (.int .i64 b)) g { s with keepDepth := b } := h.set _ _ _ rfl
theorem Strm.found {w : World} {g : Nat} {s : Str} (h : Strm w g s) (b : Bool) : Strm (w.setCell ⟨g, 19, none⟩ (.bool b)) g { s with found := b } := h.set _ _ _ rfl
theorem Strm.below {w w' : World} {g : Nat} {s : Str} (h : Strm w g s) (hb : Below w.heap.size w w') : Strm w' g s := by
  unfold Strm; rw [hb.block g h.lt]; exact h

theorem own_base0 {w : World} {base base' e size : Nat} {v : Value} {n : Nat} {xs : List Value} (h : w.ownsRow base e size v n xs) (hb : base' ≤ base) : w.ownsRow base' e size v n xs := by
  obtain ⟨hl, h | ⟨g, cap, cur, h1, h2, r⟩⟩ := h
  · exact ⟨hl, .inl h⟩
  · exact ⟨hl, .inr ⟨g, cap, cur, h1, by omega, r⟩⟩
theorem _root_.Go.RowKit.Below.drewN' {B : Nat} {a w : World} (h : Below B a w) (n : Nat) : Below B a (w.drewN n) := ⟨h.os, h.tape, h.output, h.size, h.block⟩

/-- An append of nothing, within the capacity: nothing happens. -/
theorem wpList_append_zero {P : Program} (w : World) {ops : Array Oper} {rest : List Oper} {o : Oper} {a : Act} {Q : Exit → Act → World → Prop}
    (hg : o.guard = none) (s x : Operand) (t : TypeId) (hop : o.op = Op.call { callee := Callee.builtin Builtin.append, args := #[s, x], argTypes := #[t, t] })
    (e : TypeId) (i : TypeInfo) (h1 : P.underlying t = some (.slice e)) (h2 : P.info? e = some i)
    (ao : Option Addr) (n cap : Nat) (hs : a.eval s = .slice ao n cap) (ad : Addr) (c : Nat) (hx : a.eval x = .slice (some ad) 0 c) (hcap : n ≤ cap)
    (hK : wpList P ops Q rest (a.put o.dst (.slice ao n cap)) w) : wpList P ops Q (o :: rest) a w := by
  refine wpList_plain hg fun K hK' => ?_
  have hrun : (Builtin.append_ #[t, t] o.type #[.slice ao n cap, .slice (some ad) 0 c]).run P w = .ok (.slice ao n cap) w := by
    cases ao <;> simp [Builtin.append_, run_underlying h1, sizeOf, typeInfo, h2, Builtin.lenOf, Builtin.firstCells, loadCells, loadCellsFrom, storeCells, hcap]
  unfold Oper.wp
  simp [execOp, hop, resolve, invoke, builtin, hs, hx, hrun, Result.andThen]
  exact hK' _ _ hK

/-- What keep leaves. -/
def KPpost (g : Nat) (s : Str) (ks bs : List Int) (w : World) (e : Ending) (w' : World) : Prop :=
  e = .returned (.tuple #[]) ∧ ∃ k : Sl, Strm w' g { s with over := keepO ks.length s.over bs.length s.limit, kept := k } ∧ w'.ownsRow 0 5 1 k.v k.n (bys (keepC ks s.over bs s.limit)) ∧ Only g w w'

theorem owns_cut {w : World} {base e n : Nat} {k : Sl} {xs : List Value} (h : w.ownsRow base e 1 k.v n xs) : w.ownsRow base e 1 (Sl.v ⟨k.a, 0, k.c⟩) 0 [] := by
  obtain ⟨_, ⟨h1, h2⟩ | ⟨g, cap, cur, h1, h2, h3, h4, h5, h6, h7⟩⟩ := h
  · refine ⟨rfl, .inl ⟨?_, rfl⟩⟩
    simp [Sl.v] at h1 ⊢; exact ⟨h1.1, h1.2.2⟩
  · refine ⟨rfl, .inr ⟨g, cap, cur, ?_, h2, h3, Nat.zero_le _, h5, h6, by simp⟩⟩
    simp [Sl.v] at h1 ⊢; exact ⟨h1.1, h1.2.2⟩

set_option maxHeartbeats 2000000 in
set_option maxRecDepth 100000 in
theorem keep_any (g b off cb : Nat) (s : Str) (ks bs : List Int) (w : World) (hs : Strm w g s) (hk : w.ownsRow 0 5 1 s.kept.v s.kept.n (bys ks)) (hkc : s.kept.c = s.kept.n)
    (hb : ∀ i, i < bs.length → w.cell? ⟨b, off + i, none⟩ = some (.int .u8 (Pl.bt bs i))) (hz : ks.length + bs.length ≤ 1099511627776) :
    Calls Try.prog 48 #[.pointer (some ⟨g, 0, none⟩), .slice (some ⟨b, off, none⟩) bs.length cb] w fun e w' => KPpost g s ks bs w e w' := by
  have hkn : ks.length = s.kept.n := by have := owns_len hk; rwa [bys_length] at this
  have c1 : w.cell? ⟨g, 1, none⟩ = some (.int .i64 s.limit) := hs.cell 1
  have c17 : w.cell? ⟨g, 17, none⟩ = some s.kept.v := hs.cell 17
  have c18 : w.cell? ⟨g, 18, none⟩ = some (.bool s.over) := hs.cell 18
  have f17 := hs.free 17
  have f18 := hs.free 18
  have HS : Hid (Strm w g s) := hs
  have HK : Hid (w.ownsRow 0 5 1 s.kept.v s.kept.n (bys ks)) := hk
  have HKN : Hid (ks.length = s.kept.n) := hkn
  have HKC : Hid (s.kept.c = s.kept.n) := hkc
  have HB : Hid (∀ i, i < bs.length → w.cell? ⟨b, off + i, none⟩ = some (.int .u8 (Pl.bt bs i))) := hb
  have hz2 : s.kept.n + bs.length ≤ 1099511627776 := by omega
  clear hs hk hkc hb hkn
  cases ho : s.over with
  | true =>
    rw [ho] at c18
    have HOv : Hid (s.over = true) := ho
    clear ho
    go_enter Try.func48, Try.ntmps48
    go_wp2_with fail
    go_end0
    refine ⟨rfl, s.kept, ?_, ?_, Only.refl _ _⟩
    · have e1 : keepO ks.length s.over bs.length s.limit = s.over := by rw [HOv.out]; rfl
      rw [e1]; exact HS.out
    · have e2 : keepC ks s.over bs s.limit = ks := by rw [HOv.out]; rfl
      rw [e2]; exact HK.out
  | false =>
    rw [ho] at c18
    have HOv : Hid (s.over = false) := ho
    clear ho
    by_cases hl : s.limit < (s.kept.n : Int) + (bs.length : Int)
    · have hld : decide (s.limit < (s.kept.n : Int) + (bs.length : Int)) = true := decide_eq_true hl
      go_enter Try.func48, Try.ntmps48
      go_wp2_with fail
      go_quiet (fail)
      go_wp2_with fail
      go_region
      all_goals go_wp2_with fail
      go_end0
      have e1 : keepO ks.length s.over bs.length s.limit = true := by rw [HKN.out]; simp [keepO, hl]
      have e2 : keepC ks s.over bs s.limit = [] := by simp [keepC, HOv.out, HKN.out, hl]
      refine ⟨rfl, ⟨s.kept.a, 0, s.kept.c⟩, ?_, ?_, (((Only.refl g w).drewN _).setCell 18 _).setCell 17 _⟩
      · rw [e1]; exact (((HS.out.drewN _).over true).kept ⟨s.kept.a, 0, s.kept.c⟩)
      · rw [e2]
        exact own_strm (owns_cut HK.out) HS.out (by decide) ((((Only.refl g w).drewN _).setCell 18 _).setCell 17 _)
    · have hld : decide (s.limit < (s.kept.n : Int) + (bs.length : Int)) = false := decide_eq_false hl
      have e1 : keepO ks.length s.over bs.length s.limit = false := by rw [HKN.out, HOv.out]; simp [keepO]; omega
      have e2 : keepC ks s.over bs s.limit = ks ++ bs := by simp [keepC, HOv.out, HKN.out, hl]
      have H1 : Hid (keepO ks.length s.over bs.length s.limit = false) := e1
      have H2 : Hid (keepC ks s.over bs s.limit = ks ++ bs) := e2
      clear e1 e2
      obtain ⟨i0, hi, hz0, hz1, hz2'⟩ := info_parts Try.info5
      by_cases hm : bs.length = 0
      · obtain rfl : bs = [] := List.length_eq_zero_iff.1 hm
        have hcap : s.kept.n ≤ s.kept.c := by rw [HKC.out]; exact Nat.le_refl _
        rw [List.append_nil] at H2
        clear hm hz0 hz1 hz2'
        go_enter Try.func48, Try.ntmps48
        go_wp2_with fail
        go_quiet (fail)
        go_wp2_with (at_builtin; refine wpList_append_zero _ rfl _ _ 22 rfl 5 i0 Try.underlying22 hi _ _ _ rfl _ _ rfl hcap ?_)
        go_end0
        refine ⟨rfl, s.kept, ?_, ?_, ((Only.refl g w).drewN _).setCell 17 _⟩
        · rw [H1.out]
          have := (HS.out.drewN nq).kept s.kept
          have e3 : ({ s with kept := s.kept } : Str) = { s with over := false, kept := s.kept } := by rw [← HOv.out]
          rw [e3] at this; exact this
        · rw [H2.out]
          exact own_strm HK.out HS.out (by decide) (((Only.refl g w).drewN _).setCell 17 _)
      · have hnone : s.kept.a = none → s.kept.n = 0 ∧ s.kept.c = 0 := by
          intro hn
          obtain ⟨_, ⟨h1, h2⟩ | ⟨g', cap, cur, h1, _⟩⟩ := HK.out
          · exact ⟨h2, by rw [HKC.out]; exact h2⟩
          · simp [Sl.v, hn] at h1
        have hcap : s.kept.c < s.kept.n + bs.length := by rw [HKC.out]; omega
        have holds : ∀ W : World, (∀ x, W.cell? x = w.cell? x) → ∀ b', s.kept.a = some b' → ∀ j u, (bys ks)[j]? = some u → W.cell? (b'.add j) = some u := by
          intro W hW b' hb' j u hj
          rw [hW]
          obtain ⟨_, ⟨h1, h2⟩ | ⟨g', cap, cur, h1, _⟩⟩ := HK.out
          · simp [Sl.v, hb'] at h1
          · have hlt : j < s.kept.n := by
              have := (List.getElem?_eq_some_iff.1 hj).1
              rw [bys_length, HKN.out] at this; exact this
            have hk2 := HK.out
            simp [Sl.v] at h1
            obtain ⟨ha, hc⟩ := h1
            rw [ha] at hb'
            obtain rfl := Option.some.inj hb'
            rw [addr_plain, Nat.zero_add]
            unfold Sl.v at hk2
            rw [ha] at hk2
            rw [hk2.cellAt j (by omega)]; exact hj
        have hnews : ∀ W : World, (∀ x, W.cell? x = w.cell? x) → ∀ j u, (bys bs)[j]? = some u → W.cell? ((⟨b, off, none⟩ : Addr).add j) = some u := by
          intro W hW j u hj
          have hlt : j < bs.length := by have := (List.getElem?_eq_some_iff.1 hj).1; rwa [bys_length] at this
          rw [hW, addr_plain, HB.out j hlt, ← bys_get bs j hlt]; exact hj
        have hone : ∀ u ∈ bys bs, u.oneCell' = true := by
          intro u hu; simp [bys] at hu; obtain ⟨z, _, rfl⟩ := hu; rfl
        have HH1 : Hid (∀ W : World, (∀ x, W.cell? x = w.cell? x) → ∀ b', s.kept.a = some b' → ∀ j u, (bys ks)[j]? = some u → W.cell? (b'.add j) = some u) := holds
        have HH2 : Hid (∀ W : World, (∀ x, W.cell? x = w.cell? x) → ∀ j u, (bys bs)[j]? = some u → W.cell? ((⟨b, off, none⟩ : Addr).add j) = some u) := hnews
        have HH3 : Hid (∀ u ∈ bys bs, u.oneCell' = true) := hone
        have HH4 : Hid (s.kept.a = none → s.kept.n = 0 ∧ s.kept.c = 0) := hnone
        clear holds hnews hone hnone hm
        go_enter Try.func48, Try.ntmps48
        go_wp2_with fail
        go_quiet (fail)
        go_wp2_with (at_builtin; refine wpList_append_grows _ rfl _ _ 22 rfl 5 i0 (.int .u8 0) 1 1 Try.underlying22 hi hz0 hz1 hz2' rfl (by decide) s.kept.a s.kept.n s.kept.c (bys ks) rfl HH4.out (by rw [bys_length, HKN.out]; omega) (HH1.out _ (fun _ => rfl)) ⟨b, off, none⟩ bs.length cb (bys bs) rfl (by rw [bys_length]; omega) (HH2.out _ (fun _ => rfl)) HH3.out hcap (by unfold maxLen; omega) (by omega) ?_; intro v' w1 hown hgrow; obtain ⟨k', rfl, hk'n, _⟩ := owns_sl hown; have HKn : Hid (k'.n = s.kept.n + bs.length) := hk'n; clear hk'n; have b1 : Below w.heap.size w w1 := ((Below.refl w.heap.size w).drewN' nq).grown hgrow (Nat.le_refl _) (fun k h => by cases h); have HS1 : Hid (Strm w1 g s) := HS.out.below b1; have d17 : w1.cell? ⟨g, 17, none⟩ = some s.kept.v := HS1.out.cell 17; have e17 : w1.frozen? ⟨g, 17, none⟩ = false := HS1.out.free 17)
        go_end0
        refine ⟨rfl, k', ?_, ?_, (Only.of_below b1).trans ((Only.refl g w1).setCell 17 _)⟩
        · rw [H1.out]
          have := HS1.out.kept k'
          have e3 : ({ s with kept := k' } : Str) = { s with over := false, kept := k' } := by rw [← HOv.out]
          rw [e3] at this; exact this
        · rw [H2.out, HKn.out]
          have h3 : w1.ownsRow 0 5 1 k'.v (s.kept.n + bs.length) (bys (ks ++ bs)) := by
            have := own_base0 hown (Nat.zero_le _)
            rw [show bys (ks ++ bs) = bys ks ++ bys bs from List.map_append]; exact this
          exact own_strm h3 HS1.out (by decide) ((Only.refl g w1).setCell 17 _)
end Go.Proofs.Qxb6602575a
