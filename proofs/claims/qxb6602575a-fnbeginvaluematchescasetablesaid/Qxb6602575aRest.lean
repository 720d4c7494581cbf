import Derived.Test.Qxb6602575aW11
import Derived.Test.Qxb6602575aW9
import Derived.Test.Qxb6602575aPlain6
namespace Go.Proofs.Qxb6602575a
open Go.RowKit

theorem _root_.Go.World.ownsRow.baseLe {w : World} {base base' e size : Nat} {v : Value} {n : Nat} {xs : List Value} (h : w.ownsRow base e size v n xs) (hb : base' ≤ base) : w.ownsRow base' e size v n xs := by
  obtain ⟨hl, h | ⟨g, cap, cur, h1, h2, r⟩⟩ := h
  · exact ⟨hl, .inl h⟩
  · exact ⟨hl, .inr ⟨g, cap, cur, h1, by omega, r⟩⟩

theorem below_drewN {B : Nat} {a w : World} (h : Below B a w) (n : Nat) : Below B a (w.drewN n) := ⟨h.os, h.tape, h.output, h.size, h.block⟩

theorem zzBytes27 (q : Int) (ao : Option Addr) (len cap : Nat) (i : Int) (w : World) (hl : len ≤ maxLen) :
    Calls Try.prog 27 #[.int .u8 q, .slice ao len cap, .int .i64 i] w fun e w' => e = .returned (.bool (decide (len ≤ 1048576))) ∧ w' = w := by
  unfold maxLen at hl
  by_cases h : len ≤ 1048576
  · rw [decide_eq_true h]
    go_enter Try.func27, Try.ntmps27
    go_wp2
    go_ret
    exact ⟨rfl, rfl⟩
  · rw [decide_eq_false h]
    go_enter Try.func27, Try.ntmps27
    go_wp2
    go_ret
    exact ⟨rfl, rfl⟩

theorem zzNumberRest_any {Q : Ending → World → Prop} (g : Nat) (pv : Value) (i : Int) (w : World) (h : Calls Try.prog 40 #[.pointer (some ⟨g, 0, none⟩), pv, .int .i64 i] w fun e w' => (∃ r, e = .returned (.int .i64 r)) ∧ Q e w') :
    Calls Try.prog 24 #[.pointer (some ⟨g, 0, none⟩), pv, .int .i64 i] w Q := by
  go_enter Try.func24, Try.ntmps24
  go_wp2_with fail
  refine h.mono ?_
  rintro e w' ⟨⟨r, rfl⟩, hq⟩
  have HQ : Hid (Q (.returned (.int .i64 r)) w') := hq
  clear hq
  go_wp2_with fail
  exact HQ.out

theorem rest_out (q : Int) (ao : Option Addr) (cap : Nat) (zs : List Int) (i : Int) (w : World) (h : Rd w ao zs) (hb : ¬ (zs.length ≤ 1048576 ∧ 0 ≤ i ∧ i ≤ zs.length ∧ q ≤ 7)) :
    Calls Try.prog 6 #[.int .u8 q, .slice ao zs.length cap, .int .i64 i] w fun e w' => e = .returned (.bool true) ∧ Below w.heap.size w w' := by
  have hm := h.1
  by_cases hl : zs.length ≤ 1048576
  · have hd : decide (zs.length ≤ 1048576) = true := decide_eq_true hl
    by_cases hi : 0 ≤ i ∧ i ≤ zs.length
    · obtain ⟨h1, h2⟩ := hi
      have hq : ¬ q ≤ 7 := by omega
      go_enter Try.func6, Try.ntmps6
      go_wp2_with (go_at_call 27; refine (zzBytes27 _ _ _ _ _ _ (by omega)).mono ?_; rintro e w' ⟨rfl, rfl⟩)
      all_goals go_ret
      all_goals exact ⟨rfl, Below.refl _ _⟩
    · go_enter Try.func6, Try.ntmps6
      go_wp2_with (go_at_call 27; refine (zzBytes27 _ _ _ _ _ _ (by omega)).mono ?_; rintro e w' ⟨rfl, rfl⟩)
      all_goals go_ret
      all_goals exact ⟨rfl, Below.refl _ _⟩
  · have hd : decide (zs.length ≤ 1048576) = false := decide_eq_false hl
    go_enter Try.func6, Try.ntmps6
    go_wp2_with (go_at_call 27; refine (zzBytes27 _ _ _ _ _ _ (by omega)).mono ?_; rintro e w' ⟨rfl, rfl⟩)
    all_goals go_ret
    all_goals exact ⟨rfl, Below.refl _ _⟩

/-- What the law asks of the end: where the number ended; the piece is at its end; it waits, or is broken. -/
def RF (jj n r len i k st more : Int) (bk : Bool) : Prop :=
  (0 ≤ jj ∧ jj < n ∧ r = i + jj - k ∧ st = 7 ∧ bk = false) ∨ (jj = n ∧ 0 ≤ n ∧ r = len ∧ st = 9 ∧ bk = false) ∨ (jj = -1 ∧ r = len ∧ st = 9 ∧ bk = (more == -1))

theorem rest_fin {g i ph n : Nat} {zs pre : List Int} {w5 w6 : World} {e : Ending} {jj : Int} (hn : n = pre.length + (zs.length - i)) (hi : i ≤ zs.length)
    (hp : NRpost (fun _ q w' => Strm w' g { fresh ph 9 with number := (q : Nat), state := 7 } ∧ Only g w5 w') g (fresh ph 9) zs i ph w5 e w6)
    (HJ : jj = if Pl.acc (Pl.run ph (zs.drop i)).2 then ((pre.length + (Pl.run ph (zs.drop i)).1 : Nat) : Int) else -1)
    (HJ1 : Pl.acc (Pl.run ph (zs.drop i)).2 = false → (Pl.run ph (zs.drop i)).1 < (zs.drop i).length → Pl.numEnd (pre ++ zs.drop i ++ [48]) 0 = -1)
    (HJ2 : Pl.acc (Pl.run ph (zs.drop i)).2 = false → (Pl.run ph (zs.drop i)).1 = (zs.drop i).length → 0 ≤ Pl.numEnd (pre ++ zs.drop i ++ [48]) 0) :
    ∃ (r : Int) (S : Str), e = .returned (.int .i64 r) ∧ Strm w6 g S ∧ Only g w5 w6 ∧ RF jj n r zs.length i pre.length S.state (Pl.numEnd (pre ++ zs.drop i ++ [48]) 0) S.broken := by
  have hl : (zs.drop i).length = zs.length - i := by simp
  rw [hl] at HJ1 HJ2
  unfold NRpost at hp
  generalize (Pl.run ph (zs.drop i)).1 = a at hp HJ HJ1 HJ2
  generalize (Pl.run ph (zs.drop i)).2 = q at hp HJ HJ1 HJ2
  rcases hp with ⟨h1, rfl, h3, h4⟩ | ⟨h1, h2, rfl, h3, h4⟩ | ⟨h1, h2, rfl, h3, h4⟩
  · refine ⟨_, _, rfl, h3, h4, ?_⟩
    cases ha : Pl.acc q with
    | true =>
      rw [ha, if_pos rfl] at HJ
      exact .inr (.inl ⟨by omega, by omega, rfl, rfl, rfl⟩)
    | false =>
      rw [ha] at HJ
      have := HJ2 ha (by omega)
      refine .inr (.inr ⟨by simpa using HJ, rfl, rfl, ?_⟩)
      show false = _
      symm; rw [beq_eq_false_iff_ne]; omega
  · rw [h2, if_pos rfl] at HJ
    exact ⟨_, _, rfl, h3, h4, .inl ⟨by omega, by omega, by omega, rfl, rfl⟩⟩
  · rw [h2] at HJ
    have := HJ1 h2 (by omega)
    refine ⟨_, _, rfl, h3, h4, .inr (.inr ⟨by simpa using HJ, rfl, rfl, ?_⟩)⟩
    rw [this]; rfl

set_option maxHeartbeats 2000000 in
set_option maxRecDepth 100000 in
theorem rest_in (ph : Nat) (ao : Option Addr) (cap : Nat) (zs : List Int) (i : Nat) (w : World) (h : Rd w ao zs) (hn : ao = none → cap = 0) (hb : zs.length ≤ 1048576) (hi : i ≤ zs.length) (hph : ph ≤ 7) :
    Calls Try.prog 6 #[.int .u8 (ph : Nat), .slice ao zs.length cap, .int .i64 i] w fun e w' => e = .returned (.bool true) ∧ Below w.heap.size w w' := by
  have hm := h.1
  have hd : decide (zs.length ≤ 1048576) = true := decide_eq_true hb
  go_enter Try.func6, Try.ntmps6
  go_wp2_with (go_at_call 27; refine (zzBytes27 _ _ _ _ _ _ (by omega)).mono ?_; rintro e w' ⟨rfl, hw⟩; replace hw := hw.symm; subst hw)
  refine (clone_any _ _ _ zs _ h rfl hn (by omega)).mono ?_
  rintro e w1 ⟨ap, rfl, hp1, b1⟩
  clear h
  go_wp2_with fail
  refine (phaseText_any ph _ hph).mono ?_
  rintro e w2 ⟨at2, rfl, ht2, b2⟩
  have hp2 := owns_below hp1 b2
  have hpl := Pl.phText_len ph
  generalize hpre : phText ph = pre at ht2 hpl
  have HPre : Hid (phText ph = pre) := hpre
  clear hpre hp1
  have HT2 : Hid (Rd w2 at2 pre) := rd_of_owns ht2
  have HP2 : Hid (Rd w2 ap zs) := rd_of_owns hp2
  have HO2 : Hid (w2.ownsRow w.heap.size 5 1 (.slice ap zs.length zs.length) zs.length (bys zs)) := hp2
  clear ht2 hp2
  have HB2 : Hid (Below w.heap.size w w2) := b1.trans (b2.mono b1.size)
  have HZ2 : Hid (w.heap.size ≤ w2.heap.size) := by show _ ≤ _; have := b1.size; have := b2.size; omega
  clear b1 b2
  go_upto_region 11 with fail
  go_cut [8] (fun t wx => ∃ aq n, t = .slice aq n n ∧ n = pre.length + (zs.length - i) ∧ wx.ownsRow w.heap.size 5 1 (.slice aq n n) n (bys (pre ++ zs.drop i)) ∧ wx.ownsRow w.heap.size 5 1 (.slice ap zs.length zs.length) zs.length (bys zs) ∧ Below w.heap.size w wx)
  case first =>
    by_cases hil : zs.length = i
    · subst hil
      go_wp2_with fail
      refine (concat_any _ _ _ _ _ _ pre (zs.drop zs.length) _ HT2.out (by rw [List.drop_of_length_le (by omega)]; exact rd_nil _ _) rfl (by simp) (by omega)).mono ?_
      rintro e w3 ⟨aq, rfl, hq3, b3⟩
      have HQ3 : Hid (_ ∧ _ ∧ _) := ⟨hq3.baseLe HZ2.out, owns_below HO2.out b3, HB2.out.trans (b3.mono HZ2.out)⟩
      clear hq3 b3
      go_wp2_with fail
      go_meet
      exact ⟨aq, _, rfl, by omega, HQ3.out⟩
    · go_wp2_with fail
      refine (concat_any _ _ _ _ _ _ pre (zs.drop i) _ HT2.out (rd_drop HP2.out i) rfl (by simp) (by omega)).mono ?_
      rintro e w3 ⟨aq, rfl, hq3, b3⟩
      have HQ3 : Hid (_ ∧ _ ∧ _) := ⟨hq3.baseLe HZ2.out, owns_below HO2.out b3, HB2.out.trans (b3.mono HZ2.out)⟩
      clear hq3 b3
      go_wp2_with fail
      go_meet
      exact ⟨aq, _, rfl, rfl, HQ3.out⟩
  case rest =>
  obtain ⟨aq, n, rfl, hnn, hq3, hp3, b3⟩ := hcut
  have HQ3 : Hid (Rd wc aq (pre ++ zs.drop i)) := rd_of_owns hq3
  have HO3 : Hid (wc.ownsRow w.heap.size 5 1 (.slice aq n n) n (bys (pre ++ zs.drop i))) := hq3
  have HP3 : Hid (wc.ownsRow w.heap.size 5 1 (.slice ap zs.length zs.length) zs.length (bys zs)) := hp3
  have HB3 : Hid (Below w.heap.size w wc) := b3
  have HZ3 : Hid (w.heap.size ≤ wc.heap.size) := b3.size
  have HNN : Hid (n = pre.length + (zs.length - i)) := hnn
  have hn1 : n ≤ 1048579 := by omega
  clear hq3 hp3 b3 hnn HT2 HP2 HO2 HB2 HZ2
  have hz4 : (0 : Int) ≤ 9223372036854775807 := by omega
  go_wp2_with fail
  refine (zzNumberEnd_any _ _ _ (pre ++ zs.drop i) 0 _ HQ3.out (by have := HNN.out; simp; omega) (by omega) hz4).mono ?_
  rintro e w4 ⟨rfl, hw⟩
  replace hw := hw.symm
  subst hw
  clear hz4
  rw [show (0 : Int).toNat = 0 from rfl]
  have HJ : Hid (Pl.numEnd (pre ++ zs.drop i) 0 = if Pl.acc (Pl.run ph (zs.drop i)).2 then ((pre.length + (Pl.run ph (zs.drop i)).1 : Nat) : Int) else -1) := by
    show _ = _; rw [← HPre.out]; exact Pl.num_pre ph hph _
  have HJ1 : Hid (Pl.acc (Pl.run ph (zs.drop i)).2 = false → (Pl.run ph (zs.drop i)).1 < (zs.drop i).length → Pl.numEnd (pre ++ zs.drop i ++ [48]) 0 = -1) := by
    rw [← HPre.out]; exact Pl.num_more_bad ph hph _
  have HJ2 : Hid (Pl.acc (Pl.run ph (zs.drop i)).2 = false → (Pl.run ph (zs.drop i)).1 = (zs.drop i).length → 0 ≤ Pl.numEnd (pre ++ zs.drop i ++ [48]) 0) := by
    rw [← HPre.out]; exact Pl.num_more_ok ph hph _
  generalize hj : Pl.numEnd (pre ++ zs.drop i) 0 = jj at HJ
  clear hj
  go_wp2_with fail
  refine (fresh_any _ _ _).mono ?_
  rintro e w4 ⟨rfl, b4⟩
  go_wp2_with fail
  refine (newStream_any (fresh ph 9) _).mono ?_
  rintro e w5 ⟨g, rfl, hg5, hs5, b5⟩
  have hsz4 := b4.size
  have HS5 : Hid (Strm w5 g (fresh ph 9)) := hs5
  have hgw : w.heap.size ≤ g := by have := HZ3.out; omega
  have HB5 : Hid (Below w.heap.size w w5) := (HB3.out.trans (b4.mono HZ3.out)).trans (b5.mono (by have := HZ3.out; omega))
  have HP5 : Hid (w5.ownsRow 0 5 1 (.slice ap zs.length zs.length) zs.length (bys zs)) := (owns_below (owns_below HP3.out b4) b5).baseLe (Nat.zero_le _)
  have HO5 : Hid (w5.ownsRow 0 5 1 (.slice aq n n) n (bys (pre ++ zs.drop i))) := (owns_below (owns_below HO3.out b4) b5).baseLe (Nat.zero_le _)
  clear b4 hg5 hs5 b5 hsz4 HQ3 HO3 HP3 HB3 HZ3
  go_wp2_with fail
  refine zzNumberRest_any g _ _ _ ?_
  refine (numberRest_any (fun e q w' => Strm w' g { fresh ph 9 with number := (q : Nat), state := 7 } ∧ Only g w5 w') g i ph ap zs (fresh ph 9) _ HS5.out HP5.out (by omega) hi hph rfl rfl ?_).mono ?_
  · intro e q W _ _ hs ho
    refine (valueEnded_fresh g _ _ _ W hs rfl rfl).mono ?_
    rintro e' w' ⟨rfl, h1, h2⟩
    exact ⟨rfl, h1, ho.trans h2⟩
  intro e w6 hpost
  obtain ⟨r, S, rfl, hs6, ho6, hrf⟩ := rest_fin HNN.out hi hpost HJ.out HJ1.out HJ2.out
  refine ⟨⟨r, rfl⟩, ?_⟩
  have HP6 : Hid (w6.ownsRow 0 5 1 (.slice ap zs.length zs.length) zs.length (bys zs)) := own_strm HP5.out HS5.out (by decide) ho6
  have HO6 : Hid (w6.ownsRow 0 5 1 (.slice aq n n) n (bys (pre ++ zs.drop i))) := own_strm HO5.out HS5.out (by decide) ho6
  have HB6 : Hid (Below w.heap.size w w6) := HB5.out.trans (ho6.below hgw HB5.out.size)
  have HRF : Hid (RF jj n r zs.length i pre.length S.state (Pl.numEnd (pre ++ zs.drop i ++ [48]) 0) S.broken) := hrf
  have HS6 : Hid (Strm w6 g S) := hs6
  clear hpost hs6 ho6 hrf HJ HJ1 HJ2 HP5 HO5 HS5 HB5
  go_wp2_with fail
  refine (viewOf_any S g _ HS6.out).mono ?_
  rintro e w7 ⟨rfl, b7⟩
  have HO7 : Hid (w7.ownsRow 0 5 1 (.slice aq n n) n (bys (pre ++ zs.drop i))) := owns_below HO6.out b7
  have hsz7 : w.heap.size ≤ w7.heap.size := by have := HB6.out.size; have := b7.size; omega
  have HB7 : Hid (Below w.heap.size w w7) := HB6.out.trans (b7.mono HB6.out.size)
  clear b7 HP6 HO6 HB6 HS6
  have hS20 : S.cells[20]? = some (.bool S.broken) := rfl
  have hS4 : S.cells[4]? = some (.int .u8 S.state) := rfl
  go_upto_region 16 with (refine wpList_store_new (o := { dst := none, op := .store 42 (.tmp 12) (.tmp 51), type := _, pos := _, after := _, guard := _ }) rfl 42 _ _ rfl S.cells _ rfl rfl Try.info42 rfl (Str.one _) ?_)
  rcases HRF.out with ⟨h1, h2, h3, h4, h5⟩ | ⟨h1, h2, h3, h4, h5⟩ | ⟨h1, h2, h3, h4⟩
  · subst h3
    rw [h5] at hS20
    rw [h4] at hS4
    clear h4 h5 HRF HNN
    go_wp2_with fail
    go_ret
    exact ⟨rfl, HB7.out.alloc hsz7 _⟩
  · subst h3 h1
    rw [h5] at hS20
    rw [h4] at hS4
    clear h4 h5 HRF HNN
    go_wp2_with fail
    go_ret
    exact ⟨rfl, HB7.out.alloc hsz7 _⟩
  · subst h2 h1
    rw [h3] at hS4
    have HBk : Hid (S.broken = (Pl.numEnd (pre ++ zs.drop i ++ [48]) 0 == -1)) := h4
    clear h3 h4 HRF
    have hnb : ((-1 : Int) == (n : Int)) = false := by rw [beq_eq_false_iff_ne]; omega
    go_wp2_with fail
    have b8 : Below w7.heap.size w7 ((w7.alloc (Obj.cells S.cells 42)).alloc (Obj.cells #[Value.int IntKind.u8 48] 5)) := ((Below.refl _ _).alloc (Nat.le_refl _) _).alloc (by simp) _
    have h48 : Rd ((w7.alloc (Obj.cells S.cells 42)).alloc (Obj.cells #[Value.int IntKind.u8 48] 5)) (some ⟨w7.heap.size + 1, 0, none⟩) [48] := by
      have := World.ownsRow_lit (base := 0) (e := 5) (size := 1) (w7.alloc (Obj.cells S.cells 42)) #[Value.int IntKind.u8 48] 1 (Nat.zero_le _) (by decide) rfl
      rw [World.size_alloc] at this
      exact rd_of_owns this
    refine (concat_any _ _ n 1 _ _ (pre ++ zs.drop i) [48] _ (rd_below (rd_of_owns HO7.out) b8) h48 (by have := HNN.out; simp; omega) rfl (by omega)).mono ?_
    rintro e w9 ⟨a9, rfl, h9, b9⟩
    have HR9 : Hid (Rd w9 a9 (pre ++ zs.drop i ++ [48])) := rd_of_owns h9
    have hv : ∀ k, w9.cell? ⟨w7.heap.size, k, none⟩ = S.cells[k]? := by
      intro k
      rw [b9.cell (p := ⟨w7.heap.size, k, none⟩) (by show w7.heap.size < _; rw [World.size_alloc, World.size_alloc]; omega)]
      have : ((w7.alloc (Obj.cells S.cells 42)).alloc (Obj.cells #[Value.int IntKind.u8 48] 5)).heap[w7.heap.size]? = some (Obj.cells S.cells 42) := by
        rw [Below.heap_alloc _ _ _ (by rw [World.size_alloc]; omega)]; exact heap_alloc_last w7 _
      exact cell_of_row _ _ k _ _ _ this
    have hv20 : w9.cell? ⟨w7.heap.size, 20, none⟩ = some (.bool S.broken) := hv 20
    have hv4 : w9.cell? ⟨w7.heap.size, 4, none⟩ = some (.int .u8 9) := by rw [hv 4]; exact hS4
    have HB9 : Hid (Below w.heap.size w w9) := (HB7.out.trans (b8.mono hsz7)).trans (b9.mono (by rw [World.size_alloc, World.size_alloc]; omega))
    have HL9 : Hid ((pre ++ zs.drop i ++ [48]).length = n + 1) := by show _ = _; have := HNN.out; simp; omega
    have hz4 : (0 : Int) ≤ 9223372036854775807 := by omega
    clear h9 b9 b8 h48 hS20 hS4 hv HB7 HO7 HNN hsz7
    go_wp2_with fail
    go_quiet ((go_at_call 14; exact Calls.quiet_of_same (zzNumberEnd_any _ _ _ (pre ++ zs.drop i ++ [48]) 0 _ HR9.out HL9.out (by omega) hz4)))
    go_wp2_with fail
    go_ret
    refine ⟨ret_bool ?_, below_drewN HB9.out nq⟩
    rw [HBk.out, List.append_assoc]; exact beq_self_eq_true _

theorem rest_core (q : Int) (ao : Option Addr) (len cap : Nat) (zs : List Int) (i : Int) (w : World) (h : Rd w ao zs) (hl : zs.length = len) (hn : ao = none → cap = 0) (hq : 0 ≤ q) :
    Calls Try.prog 6 #[.int .u8 q, .slice ao len cap, .int .i64 i] w fun e w' => e = .returned (.bool true) ∧ Below w.heap.size w w' := by
  subst hl
  by_cases hb : zs.length ≤ 1048576 ∧ 0 ≤ i ∧ i ≤ zs.length ∧ q ≤ 7
  · obtain ⟨h1, h2, h3, h4⟩ := hb
    obtain ⟨n, rfl⟩ := Int.eq_ofNat_of_zero_le h2
    obtain ⟨ph, rfl⟩ := Int.eq_ofNat_of_zero_le hq
    exact rest_in ph ao cap zs n w h hn h1 (by omega) (by omega)
  · exact rest_out q ao cap zs i w h hb
end Go.Proofs.Qxb6602575a
