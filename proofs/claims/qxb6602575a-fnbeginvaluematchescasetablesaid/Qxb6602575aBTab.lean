import Derived.Test.Qxb6602575aW38
namespace Go.Proofs.Qxb6602575a
open Go.RowKit

set_option maxHeartbeats 4000000 in
set_option maxRecDepth 100000 in
theorem btab_any (ap : Option Addr) (cp : Nat) (zs : List Int) (i : Int) (s : Str) (C : Con) (w : World) (hp : Rd w ap zs) (hpn : ap = none → cp = 0) (hr : Reads w s C)
    (hsn : (s.path.a = none → s.path.c = 0) ∧ (s.closers.a = none → s.closers.c = 0) ∧ (s.name.a = none → s.name.c = 0) ∧ (s.kept.a = none → s.kept.c = 0)) (hw : s.word.size ≤ maxLen) (_hq : 0 ≤ s.number) (hbk : s.broken = false) :
    Calls Try.prog 8 #[.slice ap zs.length cp, .int .i64 i, .agg s.cells30] w fun e w' => e = .returned (.bool true) ∧ Below w.heap.size w w' := by
  have HP : Hid (Rd w ap zs) := hp
  have HPN : Hid (ap = none → cp = 0) := hpn
  have HR : Hid (Reads w s C) := hr
  have HSN : Hid ((s.path.a = none → s.path.c = 0) ∧ (s.closers.a = none → s.closers.c = 0) ∧ (s.name.a = none → s.name.c = 0) ∧ (s.kept.a = none → s.kept.c = 0)) := hsn
  have HBk : Hid (s.broken = false) := hbk
  have hl0 := hp.1
  have hl1 : s.closers.n ≤ maxLen := by rw [← hr.closersN]; exact hr.closers.1
  have hl2 : s.name.n ≤ maxLen := by rw [← hr.nameN]; exact hr.name.1
  have hl3 : s.kept.n ≤ maxLen := by rw [← hr.keptN]; exact hr.kept.1
  have HL : Hid (zs.length ≤ maxLen ∧ s.closers.n ≤ maxLen ∧ s.name.n ≤ maxLen ∧ s.kept.n ≤ maxLen ∧ s.word.size ≤ maxLen) := ⟨hl0, hl1, hl2, hl3, hw⟩
  clear hp hpn hr hsn hbk hl0 hl1 hl2 hl3 hw
  go_enter Try.func8, Try.ntmps8
  go_upto_region 0 with fail
  go_cut [5, 6] (fun t u wx => t = .pointer (some ⟨w.heap.size, 0, none⟩) ∧ u = .bool false ∧ Blk wx w.heap.size 30 s.cells30 ∧ Below w.heap.size w wx)
  case first =>
    go_wp2_with fail
    go_meet
    exact ⟨rfl, rfl, Blk.last w 30 _, (Below.refl _ _).alloc (Nat.le_refl _) _⟩
  case rest =>
  obtain ⟨rfl, rfl, hB0, hb0⟩ := hcut
  have HK0 : Hid (Blk wc w.heap.size 30 s.cells30 ∧ Below w.heap.size w wc) := ⟨hB0, hb0⟩
  clear hB0 hb0
  go_wp2_with (refine wpList_load_row (o := { dst := some 26, op := .load 30 (.tmp 5), type := _, pos := _, after := _, guard := _ }) rfl 30 _ rfl w.heap.size rfl 30 s.cells30 (0, 0) _ HK0.out.1 Try.underlying30 rfl Try.info30 ?_)
  refine (zzBytes31 _ _ _ _ s C _ (rds_below HR.out.path HK0.out.2) HR.out.pathN HL.out.1 HL.out.2.1 HL.out.2.2.1 HL.out.2.2.2.1 HL.out.2.2.2.2).mono ?_
  rintro e w1 ⟨b, rfl, b1, hzz⟩
  have HK1 : Hid (Blk w1 w.heap.size 30 s.cells30 ∧ Below w.heap.size w w1) := ⟨HK0.out.1.below b1, HK0.out.2.trans (b1.mono HK0.out.2.size)⟩
  clear b1 HK0
  cases b with
  | false =>
    clear hzz
    go_wp2_with fail
    go_ret
    exact ⟨rfl, HK1.out.2⟩
  | true =>
  obtain ⟨z1, z2, z3, z4, z5⟩ := hzz rfl
  clear hzz
  have HSd : Hid (Sound s) := ⟨HSN.out.1, HSN.out.2.1, HSN.out.2.2.1, HSN.out.2.2.2, z2, z3, z4, z5⟩
  go_wp2_with (refine wpList_load_row (o := { dst := some 32, op := .load 30 (.tmp 5), type := _, pos := _, after := _, guard := _ }) rfl 30 _ rfl w.heap.size rfl 30 s.cells30 (0, 0) _ HK1.out.1 Try.underlying30 rfl Try.info30 ?_)
  refine (streamBytes_any s C _ (rds_below HR.out.path HK1.out.2) HR.out.pathN HL.out.2.1 HL.out.2.2.1 HL.out.2.2.2.1 HL.out.2.2.2.2).mono ?_
  rintro e w2 ⟨n, rfl, b2⟩
  have HK2 : Hid (Blk w2 w.heap.size 30 s.cells30 ∧ Below w.heap.size w w2) := ⟨HK1.out.1.below b2, HK1.out.2.trans (b2.mono HK1.out.2.size)⟩
  clear b2 HK1
  by_cases hn : 1048576 - (zs.length : Int) < n
  · go_wp2_with fail
    go_ret
    exact ⟨rfl, HK2.out.2⟩
  by_cases hi : 0 ≤ i ∧ i < zs.length
  case neg =>
    go_wp2_with fail
    all_goals go_ret
    all_goals exact ⟨rfl, HK2.out.2⟩
  obtain ⟨hi0, hi1⟩ := hi
  have c2 : w2.cell? ⟨w.heap.size, 2, none⟩ = some s.closers.v := HK2.out.1.cell 2
  by_cases hcn : s.closers.n ≤ 10000
  case neg =>
    go_wp2_with fail
    go_ret
    exact ⟨rfl, HK2.out.2⟩
  obtain ⟨i', rfl⟩ := Int.eq_ofNat_of_zero_le hi0
  have hil : i' < zs.length := by omega
  obtain ⟨b, off, hap, hcell, _⟩ := rd_row (rd_below HP.out HK2.out.2) hil
  subst hap
  go_upto_region 11 with fail
  go_cut [7] (fun t wx => t = .int .u8 (Pl.bt zs i') ∧ w2 = wx)
  case first =>
    go_wp2_with fail
    go_meet
    exact ⟨rfl, rfl⟩
  case rest =>
  obtain ⟨rfl, rfl⟩ := hcut
  go_step
  exact t12 w w2 (some ⟨b, off, none⟩) cp zs i' s C (rd_below HP.out HK2.out.2) HPN.out HK2.out.1 HK2.out.2 (HR.out.below HK2.out.2) HSd.out HBk.out hil (by omega) hcn
end Go.Proofs.Qxb6602575a
