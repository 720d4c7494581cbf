import Derived.Test.Qxb6602575aW15
import Derived.Test.Qxb6602575aW17
import Derived.Test.Qxb6602575aW18
import Derived.Test.Qxb6602575aW19
import Derived.Test.Qxb6602575aW20
import Derived.Test.Qxb6602575aW25
import Derived.Test.Qxb6602575aW23
import Derived.Test.Qxb6602575aRest
import Derived.Deep.RegionWith
import Derived.Deep.RegionHeld3
namespace Go.Proofs.Qxb6602575a
open Go.RowKit

theorem _root_.Go.RowKit.Below.trans' {a b c : World} (h : Below a.heap.size a b) (k : Below b.heap.size b c) : Below a.heap.size a c := h.trans (k.mono h.size)

theorem below_of_drew {B : Nat} {w w' : World} (h : Below B w.drew w') : Below B w w' := ⟨h.os, h.tape, h.output, h.size, h.block⟩

/-- Where the law answers true at once. -/
def GBad (s : Str) (lp : Nat) (i : Int) : Prop := i < 0 ∨ (lp : Int) < i ∨ 7 < s.number ∨ (s.keepDepth = (s.closers.n : Int) ∧ (s.keepFrom < 0 ∨ i < s.keepFrom))

theorem yieldsIf_load_row {P : Program} {ops : Array Oper} {S : World → Prop} {o : Oper} {a : Act} (hw : Region.wanted o (yielded ops a.tmps) = true) (ty : TypeId) (x : Operand) (ho : o.op = .load ty x) (g : Nat) (hx : a.eval x = .pointer (some ⟨g, 0, none⟩))
    (t : TypeId) (cs : Array Value) (d : TypeDesc) (hg : ∀ w, S w → Blk w g t cs) (hu : P.underlying ty = some d) (hd : (match d with | .struct _ | .array _ _ => true | _ => false) = true) (hi : (P.info? ty).map (·.size) = some cs.size) : YieldsIf P ops S o (.agg cs) a :=
  Or.inl ⟨hw, fun w hS => by simp [execOp, ho, hx, Instr.loadAt, Instr.sureAddr, run_loadVar_row w g t ty cs (0, 0) d (hg w hS) hu hd hi, Result.andThen]⟩
theorem Owned.kept0 {w : World} {base : Nat} {s : Str} {C : Con} (h : Owned w base s C) : w.ownsRow 0 5 1 s.kept.v s.kept.n (bys C.kept) := own_base h.kept (Nat.zero_le _)
theorem Owned.blk {w : World} {base g : Nat} {s : Str} {C : Con} {cs : Array Value} {k : Nat} {u : Value} (h : Owned w base s C) (hg : Blk w g 30 cs) : Owned (w.setCell ⟨g, k, none⟩ u) base s C :=
  ⟨own_blk h.path hg (by decide), h.pathC, own_blk h.closers hg (by decide), h.closersC, own_blk h.name hg (by decide), h.nameC, own_blk h.kept hg (by decide), h.keptC⟩

/-- Behind the model's part. -/
def Mid (w : World) (ap : Option Addr) (zs : List Int) (s : Str) (C : Con) (base B1 B2 : Nat) (wf : Sl → Str) (kc : List Int) (wx : World) : Prop :=
  ∃ k : Sl, MS w ap zs s C base B1 B2 (wf k) wx ∧ wx.ownsRow 0 5 1 k.v k.n (bys kc)

set_option maxHeartbeats 4000000 in
set_option maxRecDepth 100000 in
theorem gram_any (ap : Option Addr) (cp : Nat) (zs : List Int) (i : Int) (s : Str) (C : Con) (w : World) (hp : Rd w ap zs) (hpn : ap = none → cp = 0) (hr : Reads w s C)
    (hsn : (s.path.a = none → s.path.c = 0) ∧ (s.closers.a = none → s.closers.c = 0) ∧ (s.name.a = none → s.name.c = 0) ∧ (s.kept.a = none → s.kept.c = 0)) (hw : s.word.size ≤ maxLen) (hq : 0 ≤ s.number) (hbk : s.broken = false) :
    Calls Try.prog 5 #[.slice ap zs.length cp, .int .i64 i, .agg s.cells30] w fun e w' => e = .returned (.bool true) ∧ Below w.heap.size w w' := by
  have HP : Hid (Rd w ap zs) := hp
  have HPN : Hid (ap = none → cp = 0) := hpn
  have HR : Hid (Reads w s C) := hr
  have HSN : Hid ((s.path.a = none → s.path.c = 0) ∧ (s.closers.a = none → s.closers.c = 0) ∧ (s.name.a = none → s.name.c = 0) ∧ (s.kept.a = none → s.kept.c = 0)) := hsn
  have HBk : Hid (s.broken = false) := hbk
  have hl0 := hp.1
  have hl1 : s.closers.n ≤ maxLen := by rw [← hr.closersN]; exact hr.closers.1
  have hl2 : s.name.n ≤ maxLen := by rw [← hr.nameN]; exact hr.name.1
  have hl3 : s.kept.n ≤ maxLen := by rw [← hr.keptN]; exact hr.kept.1
  have HL : Hid (zs.length ≤ maxLen ∧ s.closers.n ≤ maxLen ∧ s.name.n ≤ maxLen ∧ s.kept.n ≤ maxLen ∧ s.word.size ≤ maxLen) := ⟨hl0, hl1, hl2, hl3, hw⟩
  clear hp hpn hr hsn hbk hl0 hl1 hl2 hl3 hw
  go_enter Try.func5, Try.ntmps5
  go_upto_region 0 with fail
  go_cut [5, 6] (fun t u wx => t = .pointer (some ⟨w.heap.size, 0, none⟩) ∧ u = .bool false ∧ Blk wx w.heap.size 30 s.cells30 ∧ Below w.heap.size w wx)
  case first =>
    go_wp2_with fail
    go_meet
    exact ⟨rfl, rfl, Blk.last w 30 _, (Below.refl _ _).alloc (Nat.le_refl _) _⟩
  case rest =>
  obtain ⟨rfl, rfl, hB0, hb0⟩ := hcut
  have HK0 : Hid (Blk wc w.heap.size 30 s.cells30 ∧ Below w.heap.size w wc) := ⟨hB0, hb0⟩
  clear hB0 hb0
  go_wp2_with (refine wpList_load_row (o := { dst := some 20, op := .load 30 (.tmp 5), type := _, pos := _, after := _, guard := _ }) rfl 30 _ rfl w.heap.size rfl 30 s.cells30 (0, 0) _ HK0.out.1 Try.underlying30 rfl Try.info30 ?_)
  refine (zzBytes16 _ _ _ _ s C _ (rds_below HR.out.path HK0.out.2) HR.out.pathN HL.out.1 HL.out.2.1 HL.out.2.2.1 HL.out.2.2.2.1 HL.out.2.2.2.2).mono ?_
  rintro e w1 ⟨b, rfl, b1, hzz⟩
  have HK1 : Hid (Blk w1 w.heap.size 30 s.cells30 ∧ Below w.heap.size w w1) := ⟨HK0.out.1.below b1, HK0.out.2.trans (b1.mono HK0.out.2.size)⟩
  clear b1 HK0
  cases b with
  | false =>
    clear hzz
    go_wp2_with fail
    go_ret
    exact ⟨rfl, HK1.out.2⟩
  | true =>
  obtain ⟨z1, z2, z3, z4, z5⟩ := hzz rfl
  clear hzz
  have HSd : Hid (Sound s) := ⟨HSN.out.1, HSN.out.2.1, HSN.out.2.2.1, HSN.out.2.2.2, z2, z3, z4, z5⟩
  go_wp2_with (refine wpList_load_row (o := { dst := some 26, op := .load 30 (.tmp 5), type := _, pos := _, after := _, guard := _ }) rfl 30 _ rfl w.heap.size rfl 30 s.cells30 (0, 0) _ HK1.out.1 Try.underlying30 rfl Try.info30 ?_)
  refine (streamBytes_any s C _ (rds_below HR.out.path HK1.out.2) HR.out.pathN HL.out.2.1 HL.out.2.2.1 HL.out.2.2.2.1 HL.out.2.2.2.2).mono ?_
  rintro e w2 ⟨n, rfl, b2⟩
  have HK2 : Hid (Blk w2 w.heap.size 30 s.cells30 ∧ Below w.heap.size w w2) := ⟨HK1.out.1.below b2, HK1.out.2.trans (b2.mono HK1.out.2.size)⟩
  clear b2 HK1
  by_cases hn : 1048576 - (zs.length : Int) < n
  · go_wp2_with fail
    go_ret
    exact ⟨rfl, HK2.out.2⟩
  by_cases hi : 0 ≤ i ∧ i ≤ zs.length
  case neg =>
    go_wp2_with fail
    all_goals go_ret
    all_goals exact ⟨rfl, HK2.out.2⟩
  obtain ⟨hi0, hi1⟩ := hi
  have c5 : w2.cell? ⟨w.heap.size, 5, none⟩ = some (.int .u8 s.number) := HK2.out.1.cell 5
  have c15 : w2.cell? ⟨w.heap.size, 15, none⟩ = some (.int .i64 s.keepDepth) := HK2.out.1.cell 15
  have c2 : w2.cell? ⟨w.heap.size, 2, none⟩ = some s.closers.v := HK2.out.1.cell 2
  have c16 : w2.cell? ⟨w.heap.size, 16, none⟩ = some (.int .i64 s.keepFrom) := HK2.out.1.cell 16
  by_cases hq7 : s.number ≤ 7
  case neg =>
    go_wp2_with fail
    go_ret
    exact ⟨rfl, HK2.out.2⟩
  go_upto_region 11 with fail
  go_cut [59] (fun t wx => ∃ b : Bool, t = .bool b ∧ (b = false → s.keepDepth = (s.closers.n : Int) → 0 ≤ s.keepFrom ∧ s.keepFrom ≤ i) ∧ w2 = wx)
  case first =>
    by_cases hkd : s.keepDepth = (s.closers.n : Int)
    · have hkb : (s.keepDepth == (s.closers.n : Int)) = true := by rw [beq_iff_eq]; exact hkd
      clear hkd
      by_cases hk1 : 0 ≤ s.keepFrom
      · by_cases hk2 : s.keepFrom ≤ i
        · go_wp2_with fail
          go_meet
          exact ⟨false, by simp <;> omega, (fun _ _ => ⟨hk1, hk2⟩), rfl⟩
        · go_wp2_with fail
          go_meet
          exact ⟨true, by simp <;> omega, (fun h => by cases h), rfl⟩
      · go_wp2_with fail
        go_meet
        exact ⟨true, rfl, (fun h => by cases h), rfl⟩
    · have hkb : (s.keepDepth == (s.closers.n : Int)) = false := by rw [beq_eq_false_iff_ne]; exact hkd
      have HKd : Hid (¬ s.keepDepth = (s.closers.n : Int)) := hkd
      clear hkd
      go_wp2_with fail
      go_meet
      exact ⟨false, rfl, (fun _ h => absurd h HKd.out), rfl⟩
  case rest =>
  obtain ⟨b, rfl, hkf, rfl⟩ := hcut
  cases b with
  | true =>
    clear hkf
    go_wp2_with fail
    go_ret
    exact ⟨rfl, HK2.out.2⟩
  | false =>
  have HKf : Hid (s.keepDepth = (s.closers.n : Int) → 0 ≤ s.keepFrom ∧ s.keepFrom ≤ i) := hkf rfl
  clear hkf c15 c2 c16 c5
  -- the copies
  go_wp2_with fail
  refine (clone_any _ _ _ zs _ (rd_below HP.out HK2.out.2) rfl HPN.out (by omega)).mono ?_
  rintro e w3 ⟨ap3, rfl, hp3, b3⟩
  have HK3 : Hid (Blk w3 w.heap.size 30 s.cells30 ∧ Below w.heap.size w w3) := ⟨HK2.out.1.below b3, HK2.out.2.trans (b3.mono HK2.out.2.size)⟩
  have hsz2 := HK2.out.1.lt
  have HP3 : Hid (w3.ownsRow 0 5 1 (.slice ap3 zs.length zs.length) zs.length (bys zs)) := own_base hp3 (Nat.zero_le _)
  clear b3 hp3 HK2
  go_wp2_with (refine wpList_load_row (o := { dst := some 62, op := .load 30 (.tmp 5), type := _, pos := _, after := _, guard := _ }) rfl 30 _ rfl w.heap.size rfl 30 s.cells30 (0, 0) _ HK3.out.1 Try.underlying30 rfl Try.info30 ?_)
  refine (cloneStream_any s C _ (HR.out.below HK3.out.2) HSd.out).mono ?_
  rintro e w4 ⟨p4, c4, n4, k4, rfl, ho4, b4⟩
  generalize hs1 : s.with4 p4 c4 n4 k4 = s1 at ho4 ⊢
  have HS1 : Hid (s.with4 p4 c4 n4 k4 = s1) := hs1
  clear hs1
  have HK4 : Hid (Blk w4 w.heap.size 30 s.cells30 ∧ Below w.heap.size w w4) := ⟨HK3.out.1.below b4, HK3.out.2.trans (b4.mono HK3.out.2.size)⟩
  have HP4 : Hid (w4.ownsRow 0 5 1 (.slice ap3 zs.length zs.length) zs.length (bys zs)) := owns_below HP3.out b4
  have HO4 : Hid (Owned w4 w3.heap.size s1 C) := ho4
  have hsz3 := HK3.out.1.lt
  clear b4 ho4 HK3 HP3
  go_upto_region 15 with (refine wpList_store_row (o := { dst := none, op := .store 30 (.tmp 5) (.tmp 63), type := _, pos := _, after := _, guard := _ }) rfl 30 _ _ rfl w.heap.size s1.cells30 rfl rfl 30 s.cells30 HK4.out.1 Try.info30 rfl (Str.one30 _) ?_)
  go_simp
  obtain ⟨W5, hW5⟩ : ∃ W, W = w4.setRow w.heap.size s1.cells30 := ⟨_, rfl⟩
  rw [← hW5]
  have HK5 : Hid (Blk W5 w.heap.size 30 s1.cells30 ∧ Below w.heap.size w W5) := by
    rw [hW5]; exact ⟨setRow_heap _ _ _ _ _ _ HK4.out.1, HK4.out.2.trans ((only_setRow _ _ _).below (Nat.le_refl _) (by have := HK4.out.1.lt; omega))⟩
  have HP5 : Hid (W5.ownsRow 0 5 1 (.slice ap3 zs.length zs.length) zs.length (bys zs)) := by rw [hW5]; exact own_row HP4.out HK4.out.1 (by decide)
  have HO5 : Hid (Owned W5 w3.heap.size s1 C) := by rw [hW5]; exact HO4.out.row HK4.out.1
  clear hW5 HK4 HP4 HO4
  obtain ⟨n, rfl⟩ := Int.eq_ofNat_of_zero_le hi0
  obtain ⟨ph, hph⟩ := Int.eq_ofNat_of_zero_le hq
  have hph7 : ph ≤ 7 := by omega
  have hs1n : s1.number = (ph : Int) := by rw [← HS1.out]; exact hph
  have HPh : Hid (s1.number = (ph : Int)) := hs1n
  have HPh0 : Hid (s.number = (ph : Int)) := hph
  have c5 : W5.cell? ⟨w.heap.size, 5, none⟩ = some (.int .u8 (ph : Int)) := by rw [HK5.out.1.cell 5, ← hs1n]; rfl
  clear hs1n hph hq7 hq
  have hpl := Pl.phText_len ph
  have HRun : Hid (1 ≤ (Pl.run 8 (phText ph ++ zs.drop n)).1) := by
    show 1 ≤ _
    rw [Pl.run_pre ph hph7]
    have : 1 ≤ (phText ph).length := by unfold phText; split <;> simp
    simp only; omega
  go_cut [7, 8, 9, 10] (fun t1 t2 t3 t4 wx => ∃ used ended bad phn, t1 = .int .i64 used ∧ t2 = .bool ended ∧ t3 = .bool bad ∧ t4 = .int .u8 ((phn : Nat) : Int) ∧ Scan (phText ph ++ zs.drop n) (phText ph).length (zs.length - n) used ended bad phn ∧
    Blk wx w.heap.size 30 s1.cells30 ∧ Below w.heap.size w wx ∧ wx.ownsRow 0 5 1 (.slice ap3 zs.length zs.length) zs.length (bys zs) ∧ Owned wx w3.heap.size s1 C)
  case first =>
    by_cases hil : zs.length = n
    · subst hil
      go_region_with (first | (go_at_call 20; refine (phaseText_any ph _ hph7).mono ?_; rintro e w6 ⟨a6, rfl, h6, b6⟩) | (go_at_call 19; refine (numberScan_any _ _ (phText ph).length _ _ _ (phText ph) (zs.drop zs.length) _ (rd_of_owns h6) (by rw [List.drop_of_length_le (by omega)]; exact rd_nil _ _) rfl (by simp) (by omega) HRun.out).mono ?_; rintro e w7 ⟨used, ended, bad, phn, rfl, hsc, b7⟩))
      have b67 : Below W5.heap.size W5 w7 := (below_of_drew b6).trans' b7
      have HW7 : Hid (Blk w7 w.heap.size 30 s1.cells30 ∧ Below w.heap.size w w7 ∧ w7.ownsRow 0 5 1 (.slice ap3 zs.length zs.length) zs.length (bys zs) ∧ Owned w7 w3.heap.size s1 C) :=
        ⟨HK5.out.1.below b67, HK5.out.2.trans (b67.mono HK5.out.2.size), owns_below HP5.out b67, HO5.out.below b67⟩
      have HSc : Hid (Scan (phText ph ++ List.drop zs.length zs) (phText ph).length 0 used ended bad phn) := hsc
      clear b67 b6 b7 h6 hsc
      go_wp2_with fail
      go_simp
      go_meet
      exact ⟨used, ended, bad, phn, rfl, rfl, rfl, rfl, by rw [Nat.sub_self]; exact HSc.out, HW7.out⟩
    · have hin : n < zs.length := by omega
      go_region_with (first | (go_at_call 20; refine (phaseText_any ph _ hph7).mono ?_; rintro e w6 ⟨a6, rfl, h6, b6⟩) | (go_at_call 19; refine (numberScan_any _ _ (phText ph).length _ _ _ (phText ph) (zs.drop n) _ (rd_of_owns h6) (rd_below (rd_drop (rd_of_owns HP5.out) n) (below_of_drew b6)) rfl (by simp) (by omega) HRun.out).mono ?_; rintro e w7 ⟨used, ended, bad, phn, rfl, hsc, b7⟩))
      have b67 : Below W5.heap.size W5 w7 := (below_of_drew b6).trans' b7
      have HW7 : Hid (Blk w7 w.heap.size 30 s1.cells30 ∧ Below w.heap.size w w7 ∧ w7.ownsRow 0 5 1 (.slice ap3 zs.length zs.length) zs.length (bys zs) ∧ Owned w7 w3.heap.size s1 C) :=
        ⟨HK5.out.1.below b67, HK5.out.2.trans (b67.mono HK5.out.2.size), owns_below HP5.out b67, HO5.out.below b67⟩
      have HSc : Hid (Scan (phText ph ++ List.drop n zs) (phText ph).length (zs.length - n) used ended bad phn) := hsc
      clear b67 b6 b7 h6 hsc
      go_wp2_with fail
      go_simp
      go_meet
      exact ⟨used, ended, bad, phn, rfl, rfl, rfl, rfl, HSc.out, HW7.out⟩
  case rest =>
  rename World => w7
  obtain ⟨used, ended, bad, phn, rfl, rfl, rfl, rfl, hsc, hB, hb, hp, ho⟩ := hcut
  have HSc : Hid (Scan (phText ph ++ zs.drop n) (phText ph).length (zs.length - n) used ended bad phn) := hsc
  have HW7 : Hid (Blk w7 w.heap.size 30 s1.cells30 ∧ Below w.heap.size w w7 ∧ w7.ownsRow 0 5 1 (.slice ap3 zs.length zs.length) zs.length (bys zs) ∧ Owned w7 w3.heap.size s1 C) := ⟨hB, hb, hp, ho⟩
  clear hsc hB hb hp ho c5 HK5 HP5 HO5
  go_upto_region 16 with fail
  go_cut [11] (fun t wx => t = .pointer (some ⟨w7.heap.size, 0, none⟩) ∧ Blk wx w.heap.size 30 s1.cells30 ∧ Blk wx w7.heap.size 30 s1.cells30 ∧ Below w7.heap.size w7 wx)
  case first =>
    go_wp2_with (first
      | (refine wpList_load_row (o := { dst := some 76, op := .load 30 (.tmp 5), type := _, pos := _, after := _, guard := _ }) rfl 30 _ rfl w.heap.size rfl 30 s1.cells30 (0, 0) _ HW7.out.1 Try.underlying30 rfl Try.info30 ?_)
      | (refine wpList_store_newg (o := { dst := none, op := .store 30 (.tmp 11) (.tmp 76), type := _, pos := _, after := _, guard := _ }) rfl 30 _ _ rfl s1.cells30 _ w7.heap.size rfl rfl rfl Try.info30 rfl (Str.one30 _) ?_))
    go_simp
    go_meet
    exact ⟨rfl, HW7.out.1.alloc _, Blk.last w7 30 _, (Below.refl _ _).alloc (Nat.le_refl _) _⟩
  case rest =>
  rename World => w8
  obtain ⟨rfl, hBa, hBb, hb8⟩ := hcut
  obtain ⟨B2, hB2⟩ : ∃ B, B = w7.heap.size := ⟨_, rfl⟩
  rw [← hB2] at hBb ⊢
  have hlt2 : w.heap.size < B2 := by rw [hB2]; exact HW7.out.1.lt
  have HW8 : Hid (Blk w8 w.heap.size 30 s1.cells30 ∧ Blk w8 B2 30 s1.cells30 ∧ Below w.heap.size w w8 ∧ w8.ownsRow 0 5 1 (.slice ap3 zs.length zs.length) zs.length (bys zs) ∧ Owned w8 w3.heap.size s1 C) :=
    ⟨hBa, hBb, HW7.out.2.1.trans (hb8.mono HW7.out.2.1.size), owns_below HW7.out.2.2.1 hb8, HW7.out.2.2.2.below hb8⟩
  have d5 : w8.cell? ⟨B2, 5, none⟩ = some (.int .u8 s1.number) := hBb.cell 5
  have e5 := hBb.free 5
  clear hBa hBb hb8 hB2 HW7 w7
  go_upto_if 81 with fail
  obtain ⟨W9, hW9⟩ : ∃ W, W = w8.setCell ⟨B2, 5, none⟩ (.int .u8 ((phn : Nat) : Int)) := ⟨_, rfl⟩
  rw [← hW9]
  obtain ⟨s1', hs1'⟩ : ∃ x : Str, x = { s1 with number := ((phn : Nat) : Int) } := ⟨_, rfl⟩
  have HS1' : Hid (s1' = { s1 with number := ((phn : Nat) : Int) }) := hs1'
  obtain ⟨E, hE⟩ : ∃ x : Nat, x = (((n : Nat) : Int) + used).toNat := ⟨_, rfl⟩
  have HE : Hid (E = (((n : Nat) : Int) + used).toNat) := hE
  have HW9 : Hid (MS w ap3 zs s1 C w3.heap.size w.heap.size B2 s1' W9) := by
    have h8 : MS w ap3 zs s1 C w3.heap.size w.heap.size B2 s1 w8 := ⟨HW8.out.1, HW8.out.2.1, HW8.out.2.2.1, HW8.out.2.2.2.1, HW8.out.2.2.2.2, hlt2⟩
    rw [hW9, hs1']
    exact h8.write (Nat.le_refl _) ((Only.refl _ _).setCell _ _) (h8.two.fNumber _)
  clear hW9 HW8 d5 e5 hs1' hE
  go_cut [12] (fun t wx => t = .int .i64 (if ended then ((n : Nat) : Int) + used else (zs.length : Nat)) ∧ Mid w ap3 zs s1 C w3.heap.size w.heap.size B2 (fin ended s1' C.kept zs E) (finC ended s1' C.kept zs E) wx)
  case first =>
    cases ended with
    | false =>
      go_wp2_with fail
      go_meet
      exact ⟨rfl, s1.kept, by rw [HS1'.out] at HW9 ⊢; exact HW9.out, HW9.out.owned.kept0⟩
    | true =>
      obtain ⟨u, rfl, hu⟩ := scan_end hph7 (by omega) HSc.out
      obtain ⟨b, off, rfl, _, _⟩ := rd_row (rd_of_owns HW9.out.bytes) hu
      obtain rfl : E = n + u := by have := HE.out; omega
      clear HE
      have c15 : W9.cell? ⟨w.heap.size, 15, none⟩ = some (.int .i64 s1.keepDepth) := HW9.out.one.cell 15
      have c2 : W9.cell? ⟨w.heap.size, 2, none⟩ = some s1.closers.v := HW9.out.one.cell 2
      have hne : w.heap.size ≠ B2 := by omega
      by_cases hd : s1.keepDepth = (s1.closers.n : Int)
      · obtain ⟨h0, hfj⟩ : 0 ≤ s1.keepFrom ∧ s1.keepFrom ≤ n := by rw [← HS1.out] at hd ⊢; exact HKf.out hd
        have hdb : (s1.keepDepth == (s1.closers.n : Int)) = true := by rw [beq_iff_eq]; exact hd
        obtain ⟨fr, hfr⟩ := Int.eq_ofNat_of_zero_le h0
        have hfn : fr ≤ n + u := by omega
        have c16 : W9.cell? ⟨w.heap.size, 16, none⟩ = some (.int .i64 ((fr : Nat) : Int)) := by rw [HW9.out.one.cell 16, ← hfr]; rfl
        have c17 : W9.cell? ⟨w.heap.size, 17, none⟩ = some s1.kept.v := HW9.out.one.cell 17
        have c18 : W9.cell? ⟨w.heap.size, 18, none⟩ = some (.bool s1.over) := HW9.out.one.cell 18
        have c1 : W9.cell? ⟨w.heap.size, 1, none⟩ = some (.int .i64 s1.limit) := HW9.out.one.cell 1
        have hkl : C.kept.length + zs.length ≤ 1099511627776 := by
          have h9 := HW9.out.owned.reads.keptN
          have h8 : s1.kept.n = s.kept.n := by rw [← HS1.out]; rfl
          omega
        have HKM : Hid (Calls Try.prog 21 #[.slice s1.kept.a s1.kept.n s1.kept.c, .bool s1.over, .slice (some ⟨b, off + fr, none⟩) (n + u - fr) (zs.length - fr), .int .i64 s1.limit] W9.drew fun e w' =>
            ∃ nk : Sl, e = .returned (.tuple #[nk.v, .bool (endO s1' C.kept zs (n + u))]) ∧ w'.ownsRow 0 5 1 nk.v nk.n (bys (endC s1' C.kept zs (n + u))) ∧ Below W9.drew.heap.size W9.drew w') := by
          rw [HS1'.out]
          exact keepModel_end (s := { s1 with number := ((phn : Nat) : Int) }) hd hfr hfn (by omega) hkl b off W9.drew HW9.out.owned.kept0 (rd_of_owns HW9.out.bytes)
        have HD : Hid (s1'.keepDepth = (s1'.closers.n : Int)) := by rw [HS1'.out]; exact hd
        generalize hO : endO s1' C.kept zs (n + u) = O at HKM
        have HO : Hid (endO s1' C.kept zs (n + u) = O) := hO
        have hb0 : (0 : Int) ≤ ((fr : Nat) : Int) := by omega
        have hb1 : ((fr : Nat) : Int) ≤ ((n : Nat) : Int) + ((u : Nat) : Int) := by omega
        have hb2 : ((n : Nat) : Int) + ((u : Nat) : Int) ≤ ((zs.length : Nat) : Int) := by omega
        have hb3 : ¬ zs.length = fr := by omega
        have hb4 : (((n : Nat) : Int) + ((u : Nat) : Int)).toNat = n + u := by omega
        clear hO hd h0 hfj hfr hkl
        go_wp2_with fail
        go_region_held3 (fun w' => w'.cell? ⟨w.heap.size, 17, none⟩ = some s1.kept.v ∧ w'.cell? ⟨w.heap.size, 18, none⟩ = some (.bool s1.over) ∧ w'.cell? ⟨w.heap.size, 16, none⟩ = some (.int .i64 ((fr : Nat) : Int)) ∧ w'.cell? ⟨w.heap.size, 1, none⟩ = some (.int .i64 s1.limit)) (go_keep)
          (first | (go_at_call 21; refine HKM.out.mono ?_; rintro e w10 ⟨nk, rfl, hnk, b10⟩; have b10' := below_of_drew b10; have k17 := ((HW9.out.one.below b10').cell 17).trans ((HW9.out.one.cell 17).symm.trans c17); have k18 := ((HW9.out.one.below b10').cell 18).trans ((HW9.out.one.cell 18).symm.trans c18); have k16 := ((HW9.out.one.below b10').cell 16).trans ((HW9.out.one.cell 16).symm.trans c16); have k1 := ((HW9.out.one.below b10').cell 1).trans ((HW9.out.one.cell 1).symm.trans c1)))
        have HM10 : Hid (MS w (some ⟨b, off, none⟩) zs s1 C w3.heap.size w.heap.size B2 s1' w10) := HW9.out.call (Nat.le_refl _) b10'
        have HNk : Hid (w10.ownsRow 0 5 1 nk.v nk.n (bys (endC s1' C.kept zs (n + u)))) := hnk
        have d17 : w10.cell? ⟨B2, 17, none⟩ = some s1'.kept.v := HM10.out.two.cell 17
        have d18 : w10.cell? ⟨B2, 18, none⟩ = some (.bool s1'.over) := HM10.out.two.cell 18
        have d15 : w10.cell? ⟨B2, 15, none⟩ = some (.int .i64 s1'.keepDepth) := HM10.out.two.cell 15
        have d19 : w10.cell? ⟨B2, 19, none⟩ = some (.bool s1'.found) := HM10.out.two.cell 19
        have d4 : w10.cell? ⟨B2, 4, none⟩ = some (.int .u8 s1'.state) := HM10.out.two.cell 4
        have e17 := HM10.out.two.free 17
        have e18 := HM10.out.two.free 18
        have e15 := HM10.out.two.free 15
        have e19 := HM10.out.two.free 19
        have e4 := HM10.out.two.free 4
        have q2 : w10.cell? ⟨w.heap.size, 2, none⟩ = some s1.closers.v := HM10.out.one.cell 2
        clear b10 b10' hnk k17 k18 k16 k1 c15 c2 c16 c17 c18 c1 HKM HW9 hb0 hb1 hb2 hb3 hb4 hdb
        by_cases hn0 : s1.closers.n = 0
        · have hnb : ((s1.closers.n : Int) == 0) = true := by rw [beq_iff_eq]; omega
          have HF : Hid (fin true s1' C.kept zs (n + u) nk = { s1' with kept := nk, over := O, keepDepth := -1, found := !O, state := 7 }) := by
            show endS s1' C.kept zs (n + u) nk = _
            have h7 : s1'.closers.n = 0 := by rw [HS1'.out]; exact hn0
            unfold endS; rw [if_pos HD.out]; unfold stE; rw [if_pos h7, HO.out]
          clear hn0
          go_wp2_with fail
          go_simp
          go_meet
          refine ⟨rfl, nk, ?_⟩
          rw [HF.out]
          exact HM10.out.fin (Nat.le_refl _) HNk.out ((((((Only.refl B2 w10).setCell 17 _).setCell 18 _).setCell 15 _).setCell 19 _).setCell 4 _ |>.setCell 4 _) ((((((HM10.out.two.fKept nk).fOver O).fKeepDepth (-1)).fFound (!O)).fState 6).fState 7)
        · have hnb : ((s1.closers.n : Int) == 0) = false := by rw [beq_eq_false_iff_ne]; omega
          have HF : Hid (fin true s1' C.kept zs (n + u) nk = { s1' with kept := nk, over := O, keepDepth := -1, found := !O, state := 6 }) := by
            show endS s1' C.kept zs (n + u) nk = _
            have h7 : ¬ s1'.closers.n = 0 := by rw [HS1'.out]; exact hn0
            unfold endS; rw [if_pos HD.out]; unfold stE; rw [if_neg h7, HO.out]
          clear hn0
          go_wp2_with fail
          go_simp
          go_meet
          refine ⟨rfl, nk, ?_⟩
          rw [HF.out]
          exact HM10.out.fin (Nat.le_refl _) HNk.out (((((Only.refl B2 w10).setCell 17 _).setCell 18 _).setCell 15 _).setCell 19 _ |>.setCell 4 _) (((((HM10.out.two.fKept nk).fOver O).fKeepDepth (-1)).fFound (!O)).fState 6)
      · have hdb : (s1.keepDepth == (s1.closers.n : Int)) = false := by rw [beq_eq_false_iff_ne]; exact hd
        have d4 : W9.cell? ⟨B2, 4, none⟩ = some (.int .u8 s1'.state) := HW9.out.two.cell 4
        have e4 := HW9.out.two.free 4
        have HD : Hid (¬ s1'.keepDepth = (s1'.closers.n : Int)) := by rw [HS1'.out]; exact hd
        have HKp : Hid (W9.ownsRow 0 5 1 s1.kept.v s1.kept.n (bys (finC true s1' C.kept zs (n + u)))) := by
          show W9.ownsRow 0 5 1 s1.kept.v s1.kept.n (bys (endC s1' C.kept zs (n + u)))
          unfold endC; rw [if_neg HD.out]; exact HW9.out.owned.kept0
        by_cases hn0 : s1.closers.n = 0
        · have hnb : ((s1.closers.n : Int) == 0) = true := by rw [beq_iff_eq]; omega
          have HF : Hid (fin true s1' C.kept zs (n + u) s1.kept = { s1' with state := 7 }) := by
            show endS s1' C.kept zs (n + u) s1.kept = _
            have h7 : s1'.closers.n = 0 := by rw [HS1'.out]; exact hn0
            unfold endS; rw [if_neg HD.out]; unfold stE; rw [if_pos h7, HS1'.out]
          clear hn0 hd
          go_wp2_with fail
          go_simp
          go_meet
          refine ⟨rfl, s1.kept, ?_⟩
          rw [HF.out]
          exact HW9.out.fin (Nat.le_refl _) HKp.out (((Only.refl B2 W9).setCell 4 _).setCell 4 _) ((HW9.out.two.fState 6).fState 7)
        · have hnb : ((s1.closers.n : Int) == 0) = false := by rw [beq_eq_false_iff_ne]; omega
          have HF : Hid (fin true s1' C.kept zs (n + u) s1.kept = { s1' with state := 6 }) := by
            show endS s1' C.kept zs (n + u) s1.kept = _
            have h7 : ¬ s1'.closers.n = 0 := by rw [HS1'.out]; exact hn0
            unfold endS; rw [if_neg HD.out]; unfold stE; rw [if_neg h7, HS1'.out]
          clear hn0 hd
          go_wp2_with fail
          go_simp
          go_meet
          refine ⟨rfl, s1.kept, ?_⟩
          rw [HF.out]
          exact HW9.out.fin (Nat.le_refl _) HKp.out ((Only.refl B2 W9).setCell 4 _) (HW9.out.two.fState 6)
  case rest =>
  rename World => w11
  obtain ⟨rfl, k, hms, hk⟩ := hcut
  have HM11 : Hid (MS w ap3 zs s1 C w3.heap.size w.heap.size B2 (fin ended s1' C.kept zs E k) w11) := hms
  have HK11 : Hid (w11.ownsRow 0 5 1 k.v k.n (bys (finC ended s1' C.kept zs E))) := hk
  obtain ⟨R, hR⟩ : ∃ x : Int, x = (if ended then ((n : Nat) : Int) + used else ((zs.length : Nat) : Int)) := ⟨_, rfl⟩
  rw [← hR]
  have HRr : Hid (R = (if ended then ((n : Nat) : Int) + used else ((zs.length : Nat) : Int))) := hR
  have hbr1 : s1.broken = false := by rw [← HS1.out]; exact HBk.out
  have HBr1 : Hid (s1.broken = false) := hbr1
  have HSd1 : Hid (Sound s1) := HM11.out.owned.sound (by rw [← HS1.out]; exact z2) (by rw [← HS1.out]; exact z3) (by rw [← HS1.out]; exact z4) (by rw [← HS1.out]; exact z5)
  have HF1 : Hid (s1.keepDepth = (s1.closers.n : Int) → 0 ≤ s1.keepFrom ∧ s1.keepFrom ≤ n) := by rw [← HS1.out]; exact HKf.out
  have HLn : Hid (C.kept.length + zs.length ≤ 1099511627776) := by
    show _ ≤ _
    have h9 := HM11.out.owned.reads.keptN
    have h8 : s1.kept.n = s.kept.n := by rw [← HS1.out]; rfl
    omega
  clear hms hk hR hbr1 HW9
  go_wp2_with (refine wpList_load_row (o := { dst := some 121, op := .load 30 (.tmp 5), type := _, pos := _, after := _, guard := _ }) rfl 30 _ rfl w.heap.size rfl 30 s1.cells30 (0, 0) _ HM11.out.one Try.underlying30 rfl Try.info30 ?_)
  refine (cloneStream_any s1 C _ HM11.out.owned.reads HSd1.out).mono ?_
  rintro e w12 ⟨p5, c5', n5, k5, rfl, ho5, b12⟩
  generalize hs2 : s1.with4 p5 c5' n5 k5 = s2 at ho5 ⊢
  have HS2 : Hid (s1.with4 p5 c5' n5 k5 = s2) := hs2
  have hbr2 : s2.broken = false := by rw [← hs2]; exact HBr1.out
  have HBr2 : Hid (s2.broken = false) := hbr2
  have HM12 : Hid (MS w ap3 zs s1 C w3.heap.size w.heap.size B2 (fin ended s1' C.kept zs E k) w12) := HM11.out.call (Nat.le_refl _) b12
  have HK12 : Hid (w12.ownsRow 0 5 1 k.v k.n (bys (finC ended s1' C.kept zs E))) := owns_below HK11.out b12
  have HO12 : Hid (Owned w12 w11.heap.size s2 C) := ho5
  clear hs2 hbr2 ho5 b12 HM11 HK11
  go_wp2_with fail
  refine (toView_any s2 _ HBr2.out).mono ?_
  rintro e w13 ⟨rfl, b13⟩
  have HM13 : Hid (MS w ap3 zs s1 C w3.heap.size w.heap.size B2 (fin ended s1' C.kept zs E k) w13) := HM12.out.call (Nat.le_refl _) b13
  have HK13 : Hid (w13.ownsRow 0 5 1 k.v k.n (bys (finC ended s1' C.kept zs E))) := owns_below HK12.out b13
  have HO13 : Hid (Owned w13 w11.heap.size s2 C) := HO12.out.below b13
  clear b13 HM12 HK12 HO12
  go_wp2_with fail
  refine (newStream_any s2 _).mono ?_
  rintro e w14 ⟨g, rfl, hg, hst, b14⟩
  have HM14 : Hid (MS w ap3 zs s1 C w3.heap.size w.heap.size B2 (fin ended s1' C.kept zs E k) w14) := HM13.out.call (Nat.le_refl _) b14
  have HK14 : Hid (w14.ownsRow 0 5 1 k.v k.n (bys (finC ended s1' C.kept zs E))) := owns_below HK13.out b14
  have HO14 : Hid (Owned w14 w11.heap.size s2 C) := HO13.out.below b14
  have HSt14 : Hid (Strm w14 g s2) := hst
  have HgB : Hid (w.heap.size ≤ g) := Nat.le_trans HM13.out.below.size hg
  clear hst hg b14 HM13 HK13 HO13
  have HRM : Hid (Calls Try.prog 24 #[.pointer (some ⟨g, 0, none⟩), .slice ap3 zs.length zs.length, .int .i64 n] w14 fun e w' => ∃ k' : Sl, e = .returned (.int .i64 R) ∧
      Strm w' g { fin ended { s2 with number := ((phn : Nat) : Int) } C.kept zs E k' with broken := bad } ∧ w'.ownsRow 0 5 1 k'.v k'.n (bys (finC ended { s2 with number := ((phn : Nat) : Int) } C.kept zs E)) ∧ Only g w14 w') := by
    have h := rest_model24 g n ph ap3 zs C.kept s2 w14 used ended bad phn HSt14.out HO14.out.kept0 HO14.out.keptC HM14.out.bytes hph7 (by rw [← HS2.out]; exact HPh.out) HBr2.out (by omega) HLn.out (by rw [← HS2.out]; exact HF1.out) HSc.out
    unfold RMpost at h
    rw [← HRr.out, ← HE.out] at h
    exact h
  go_wp2_with fail
  refine HRM.out.mono ?_
  rintro e w15 ⟨k', rfl, hst15, hk15, ho15⟩
  have HM15 : Hid (MS w ap3 zs s1 C w3.heap.size w.heap.size B2 (fin ended s1' C.kept zs E k) w15) := HM14.out.strm (Nat.le_refl _) HSt14.out HgB.out ho15
  have HFit : Hid (Fits g B2 bad s1 k w15) := end_link HS1'.out HS2.out HM15.out (own_strm HK14.out HSt14.out (by decide) ho15) (HO14.out.only HSt14.out ho15) hst15 hk15
  clear hst15 hk15 ho15 HRM HM14 HK14 HO14 HSt14
  obtain ⟨V, C', hV1, hV2, hV3, hV4, hV5⟩ := HFit.out
  subst hV2
  have HV1 : Hid (Strm w15 g V) := hV1
  have HV3 : Hid (Blk w15 B2 30 ({ V with path := s1.path, closers := s1.closers, name := s1.name, kept := k } : Str).cells30) := hV3
  have HV4 : Hid (Reads w15 V C') := hV4
  have HV5 : Hid (Reads w15 { V with path := s1.path, closers := s1.closers, name := s1.name, kept := k } C') := hV5
  clear hV1 hV3 hV4 hV5 HFit
  go_wp2_with fail
  obtain ⟨cs, hcs⟩ : ∃ x : Array Value, x = ({ V with path := s1.path, closers := s1.closers, name := s1.name, kept := k } : Str).cells30 := ⟨_, rfl⟩
  rw [← hcs] at HV3
  have HMt : Hid (∀ W : World, Below w15.heap.size w15 W → Calls Try.prog 25 #[.agg V.cells, .agg cs, .bool V.broken] W fun e w' => e = .returned (.bool true) ∧ Below W.heap.size W w') := by
    intro W hW
    rw [hcs]
    exact matches_true V s1.path s1.closers s1.name k C' W (HV4.out.below hW) (HV5.out.below hW)
  have hcz : (Try.prog.info? 30).map (·.size) = some cs.size := by rw [hcs]; exact Try.info30
  have HB15 : Hid (Below w.heap.size w w15) := HM15.out.below
  clear hcs HV4 HV5 HM15
  refine wp_region_held_drew (S := fun W => Below w15.heap.size w15 W) (by kernel_rfl) (Below.refl _ _).drew (fun hHeld => ?_)
  refine wpAnyH_take (i := 0) (oi := { dst := some 129, op := _, type := _, pos := _, after := _, guard := _ }) (v := .int .i64 R) rfl (by kernel_rfl) (by kernel_rfl) (by kernel_rfl) (fun _ _ _ h => h) (Or.inl ⟨by rfl, fun w _ => by go_simp⟩) hHeld ?_
  try simp only [Act.put, List.setIfInBounds_toArray, List.set_cons_zero, List.set_cons_succ]
  refine wpAnyH_take (i := 1) (oi := { dst := some 130, op := _, type := _, pos := _, after := _, guard := _ }) (v := .int .i64 R) rfl (by kernel_rfl) (by kernel_rfl) (by kernel_rfl) (fun _ _ _ h => h) (Or.inl ⟨by rfl, fun w _ => by go_simp⟩) hHeld ?_
  try simp only [Act.put, List.setIfInBounds_toArray, List.set_cons_zero, List.set_cons_succ]
  refine wpAnyH_take (i := 2) (oi := { dst := some 131, op := _, type := _, pos := _, after := _, guard := _ }) (v := .bool true) rfl (by kernel_rfl) (by kernel_rfl) (by kernel_rfl) (fun _ _ _ h => h) (Or.inl ⟨by rfl, fun w _ => by go_simp⟩) hHeld ?_
  try simp only [Act.put, List.setIfInBounds_toArray, List.set_cons_zero, List.set_cons_succ]
  refine wpAnyH_take (i := 3) (oi := { dst := some 132, op := _, type := _, pos := _, after := _, guard := _ }) (v := .bool true) rfl (by kernel_rfl) (by kernel_rfl) (by kernel_rfl) (fun _ _ _ h => h) (Or.inl ⟨by rfl, fun w _ => by go_simp⟩) hHeld ?_
  try simp only [Act.put, List.setIfInBounds_toArray, List.set_cons_zero, List.set_cons_succ]
  refine wpAnyH_take (i := 4) (oi := { dst := some 133, op := _, type := _, pos := _, after := _, guard := _ }) (v := .pointer (some ⟨g, 0, none⟩)) rfl (by kernel_rfl) (by kernel_rfl) (by kernel_rfl) (fun _ _ _ h => h) (Or.inl ⟨by rfl, fun w _ => by go_simp⟩) hHeld ?_
  try simp only [Act.put, List.setIfInBounds_toArray, List.set_cons_zero, List.set_cons_succ]
  refine wpAnyH_take (i := 7) (oi := { dst := some 136, op := _, type := _, pos := _, after := _, guard := _ }) (v := .bool V.broken) rfl (by kernel_rfl) (by kernel_rfl) (by kernel_rfl) (fun _ _ _ h => h) (Or.inl ⟨by rfl, fun w _ => by go_simp⟩) hHeld ?_
  try simp only [Act.put, List.setIfInBounds_toArray, List.set_cons_zero, List.set_cons_succ]
  refine wpAnyH_take (i := 6) (oi := { dst := some 135, op := .load 30 (.tmp 11), type := _, pos := _, after := _, guard := _ }) (v := .agg cs) rfl (by kernel_rfl) (by kernel_rfl) (by kernel_rfl) (fun _ _ _ h => h) (yieldsIf_load_row (by rfl) 30 _ rfl B2 rfl 30 cs _ (fun W hW => HV3.out.below hW) Try.underlying30 rfl hcz) hHeld ?_
  try simp only [Act.put, List.setIfInBounds_toArray, List.set_cons_zero, List.set_cons_succ]
  refine wpAnyH_ready (rs := [5]) (by kernel_rfl) (by simp) ?_
  refine AllReadyH.cons (o := { dst := some 134, op := _, type := _, pos := _, after := _, guard := _ }) rfl (fun K hK => ?_) AllReadyH.nil
  go_simp
  refine (viewOf_any V g _ ?_).mono ?_
  · exact HV1.out
  rintro e w16 ⟨rfl, b16⟩
  refine hK.out _ _ (below_of_drew b16) (fun hHeld => ?_)
  clear hK K
  try simp only [Act.put, List.setIfInBounds_toArray, List.set_cons_zero, List.set_cons_succ]
  refine wpAnyH_ready (rs := [8]) (by kernel_rfl) (by simp) ?_
  refine AllReadyH.cons (o := { dst := some 137, op := _, type := _, pos := _, after := _, guard := _ }) rfl (fun K hK => ?_) AllReadyH.nil
  go_simp
  refine (HMt.out _ ?_).mono ?_
  · exact below_of_drew b16
  rintro e w17 ⟨rfl, b17⟩
  have b17' : Below w15.heap.size w15 w17 := (below_of_drew b16).trans' b17
  refine hK.out _ _ b17' (fun hHeld => ?_)
  clear hK K
  try simp only [Act.put, List.setIfInBounds_toArray, List.set_cons_zero, List.set_cons_succ]
  refine wpAnyH_take (i := 9) (oi := { dst := some 138, op := _, type := _, pos := _, after := _, guard := _ }) (v := .bool true) rfl (by kernel_rfl) (by kernel_rfl) (by kernel_rfl) (fun _ _ _ h => h) (Or.inl ⟨by rfl, fun w _ => by go_simp⟩) b17' ?_
  try simp only [Act.put, List.setIfInBounds_toArray, List.set_cons_zero, List.set_cons_succ]
  refine wpAnyH_take (i := 10) (oi := { dst := some 6, op := _, type := _, pos := _, after := _, guard := _ }) (v := .bool true) rfl (by kernel_rfl) (by kernel_rfl) (by kernel_rfl) (fun _ _ _ h => h) (Or.inl ⟨by rfl, fun w _ => by go_simp⟩) b17' ?_
  try simp only [Act.put, List.setIfInBounds_toArray, List.set_cons_zero, List.set_cons_succ]
  refine wpAnyH_done (by kernel_rfl) ?_ _
  have HB17 : Hid (Below w.heap.size w w17) := HB15.out.trans (b17'.mono HB15.out.size)
  clear b16 b17 b17' hHeld HB15 HV1 HV3 HMt hcz
  go_wp2_with fail
  go_ret
  exact ⟨rfl, HB17.out⟩
end Go.Proofs.Qxb6602575a
