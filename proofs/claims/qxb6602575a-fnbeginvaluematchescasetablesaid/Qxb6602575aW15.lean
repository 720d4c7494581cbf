import Derived.Test.Qxb6602575aW14
namespace Go.Proofs.Qxb6602575a
open Go.RowKit

/-- What jsb1NumberScan answers. -/
def Scan (t : List Int) (lp lr : Nat) (used : Int) (ended bad : Bool) (ph : Nat) : Prop :=
  ((Pl.run 8 t).1 = t.length ∧ used = lr ∧ ended = false ∧ bad = false ∧ ph = (Pl.run 8 t).2) ∨
  ((Pl.run 8 t).1 < t.length ∧ Pl.acc (Pl.run 8 t).2 = true ∧ used = ((Pl.run 8 t).1 : Int) - lp ∧ ended = true ∧ bad = false ∧ ph = (Pl.run 8 t).2) ∨
  ((Pl.run 8 t).1 < t.length ∧ Pl.acc (Pl.run 8 t).2 = false ∧ used = 0 ∧ ended = false ∧ bad = true ∧ ph = Pl.nx (Pl.run 8 t).2)

set_option maxHeartbeats 2000000 in
set_option maxRecDepth 100000 in
theorem numberScan_any (ap ar : Option Addr) (lp cp lr cr : Nat) (ps rs : List Int) (w : World) (hp : Rd w ap ps) (hr : Rd w ar rs) (hlp : ps.length = lp) (hlr : rs.length = lr) (hz : lp + lr ≤ 1099511627770) (hn : 1 ≤ (Pl.run 8 (ps ++ rs)).1) :
    Calls Try.prog 19 #[.slice ap lp cp, .slice ar lr cr] w fun e w' => ∃ used ended bad ph, e = .returned (.tuple #[.int .i64 used, .bool ended, .bool bad, .int .u8 (ph : Nat)]) ∧ Scan (ps ++ rs) lp lr used ended bad ph ∧ Below w.heap.size w w' := by
  obtain ⟨t, ht⟩ : ∃ t, t = ps ++ rs := ⟨_, rfl⟩
  have HTt : Hid (t = ps ++ rs) := ht
  have HT : Hid (t.length = lp + lr) := by show _ = _; rw [ht, List.length_append]; omega
  rw [← ht] at hn ⊢
  clear ht
  have HRP : Hid (Rd w ap ps) := hp
  have HRR : Hid (Rd w ar rs) := hr
  have HLP : Hid (ps.length = lp) := hlp
  have HLR : Hid (rs.length = lr) := hlr
  clear hp hr hlp hlr
  go_enter Try.func19, Try.ntmps19
  go_wp2_with fail
  refine (concat_any _ _ _ _ _ _ ps rs _ HRP.out HRR.out HLP.out HLR.out (by omega)).mono ?_
  rintro e w1 ⟨at1, rfl, ht1, b1⟩
  rw [← HTt.out] at ht1
  have HO : Hid (w1.ownsRow w.heap.size 5 1 (.slice at1 (lp + lr) (lp + lr)) (lp + lr) (bys t)) := ht1
  have HR : Hid (Rd w1 at1 t) := rd_of_owns ht1
  have HB : Hid (Below w.heap.size w w1) := b1
  have hsz1 := b1.size
  have hle : (Pl.run 8 t).1 ≤ lp + lr := by have := Pl.run_le 8 t; have := HT.out; omega
  clear ht1 b1 HRP HRR
  obtain ⟨n, hnn⟩ : ∃ n, n = (Pl.run 8 t).1 := ⟨_, rfl⟩
  have HN : Hid (n = (Pl.run 8 t).1) := hnn
  rw [← hnn] at hn hle
  clear hnn
  generalize hL : lp + lr = L at hle
  have HL : Hid (L = lp + lr) := hL.symm
  have hLz : L ≤ 1099511627770 := by omega
  rw [hL] at HT HO
  clear hL
  go_wp2_with fail
  refine (longest_any _ _ _ t _ HR.out HT.out (by omega)).mono ?_
  rintro e w2 ⟨rfl, hw⟩
  replace hw := hw.symm
  subst hw
  rw [show (Pl.longest t) = n from HN.out.symm]
  by_cases hfull : n = L
  · have hbf : ((n : Int) == (L : Int)) = true := by rw [beq_iff_eq]; omega
    have HF : Hid (n = L) := hfull
    clear hfull
    go_wp2_with fail
    refine (phaseOf_any _ _ _ t _ HR.out HT.out (by omega) (by omega)).mono ?_
    rintro e w2 ⟨rfl, hw⟩
    replace hw := hw.symm
    subst hw
    go_wp2_with fail
    refine bodyPost_ret (v := .tuple #[.int .i64 lr, .bool false, .bool false, .int .u8 (Pl.phOf t : Nat)]) (by simp [results, Try.results19, go_sem]) rfl ⟨lr, false, false, Pl.phOf t, rfl, .inl ⟨?_, rfl, rfl, rfl, ?_⟩, HB.out⟩
    · rw [← HN.out, HF.out, HT.out]
    · exact Pl.scan_all t (by rw [← HN.out]; exact hn) (by rw [← HN.out, HF.out, HT.out])
  · have hbf : ((n : Int) == (L : Int)) = false := by rw [beq_eq_false_iff_ne]; omega
    have hlt : n < L := by omega
    clear hfull
    go_wp2_with fail
    refine (isNumber_any _ _ _ t n false _ HR.out HT.out (by omega) (by omega) (by omega)).mono ?_
    rintro e w2 ⟨rfl, hw⟩
    replace hw := hw.symm
    subst hw
    rw [Int.toNat_natCast]
    have HNum : Hid (Pl.isNum t n false = Pl.acc (Pl.run 8 t).2) := by show _ = _; rw [HN.out]; exact Pl.longest_num t
    cases ha : Pl.acc (Pl.run 8 t).2 with
    | true =>
      rw [HNum.out, ha]
      have HA : Hid (Pl.acc (Pl.run 8 t).2 = true) := ha
      clear ha
      go_wp2_with fail
      refine (phaseOf_any _ _ _ (t.take n) _ (rd_take HR.out n) (by have := HT.out; simp; omega) (by omega) (by omega)).mono ?_
      rintro e w2 ⟨rfl, hw⟩
      replace hw := hw.symm
      subst hw
      go_wp2_with fail
      refine bodyPost_ret (v := .tuple #[.int .i64 ((n : Int) - lp), .bool true, .bool false, .int .u8 (Pl.phOf (t.take n) : Nat)]) (by simp [results, Try.results19, go_sem]) rfl ⟨(n : Int) - lp, true, false, Pl.phOf (t.take n), rfl, .inr (.inl ⟨?_, HA.out, ?_, rfl, rfl, ?_⟩), HB.out⟩
      · rw [← HN.out, HT.out]; exact hlt
      · rw [← HN.out]
      · rw [HN.out]; exact Pl.scan_cut t (by rw [← HN.out]; exact hn)
    | false =>
      rw [HNum.out, ha]
      have HA : Hid (Pl.acc (Pl.run 8 t).2 = false) := ha
      clear ha
      go_wp2_with fail
      have b3 : Below w1.heap.size w1 (w1.alloc (Obj.cells #[Value.int IntKind.u8 49] 5)) := (Below.refl _ _).alloc (Nat.le_refl _) _
      have h49 : Rd (w1.alloc (Obj.cells #[Value.int IntKind.u8 49] 5)) (some ⟨w1.heap.size, 0, none⟩) [49] :=
        rd_of_owns (World.ownsRow_lit (base := 0) (e := 5) (size := 1) w1 #[Value.int IntKind.u8 49] 1 (Nat.zero_le _) (by decide) rfl)
      refine (concat_any _ _ n 1 _ _ (t.take n) [49] _ (rd_below (rd_take HR.out n) b3) h49 (by have := HT.out; simp; omega) rfl (by omega)).mono ?_
      rintro e w4 ⟨a4, rfl, h4, b4⟩
      have HR4 : Hid (Rd w4 a4 (t.take n ++ [49])) := rd_of_owns h4
      have HB4 : Hid (Below w.heap.size w w4) := (HB.out.trans (b3.mono hsz1)).trans (b4.mono (by rw [World.size_alloc]; omega))
      clear b3 h49 h4 b4
      go_wp2_with fail
      refine (phaseOf_any _ _ _ (t.take n ++ [49]) _ HR4.out (by have := HT.out; simp; omega) (by omega) (by omega)).mono ?_
      rintro e w2 ⟨rfl, hw⟩
      replace hw := hw.symm
      subst hw
      go_wp2_with fail
      refine bodyPost_ret (v := .tuple #[.int .i64 0, .bool false, .bool true, .int .u8 (Pl.phOf (t.take n ++ [49]) : Nat)]) (by simp [results, Try.results19, go_sem]) rfl ⟨0, false, true, Pl.phOf (t.take n ++ [49]), rfl, .inr (.inr ⟨?_, HA.out, rfl, rfl, rfl, ?_⟩), HB4.out⟩
      · rw [← HN.out, HT.out]; exact hlt
      · rw [HN.out]; exact Pl.scan_bad t (by rw [← HN.out]; exact hn) HA.out

/-- jsb1KeepModel. -/
def keepO (ks : Nat) (over : Bool) (ds : Nat) (limit : Int) : Bool := over || decide (limit < ((ks + ds : Nat) : Int))
def keepC (ks : List Int) (over : Bool) (ds : List Int) (limit : Int) : List Int := if over then ks else if limit < ((ks.length + ds.length : Nat) : Int) then [] else ks ++ ds

set_option maxHeartbeats 1000000 in
theorem keepModel_any (ak aa : Option Addr) (lk ck la ca : Nat) (ks ds : List Int) (over : Bool) (limit : Int) (w : World) (hk : Rd w ak ks) (ha : Rd w aa ds) (hlk : ks.length = lk) (hla : ds.length = la) (hz : lk + la ≤ 1099511627776) :
    Calls Try.prog 21 #[.slice ak lk ck, .bool over, .slice aa la ca, .int .i64 limit] w fun e w' => ∃ nk : Sl, e = .returned (.tuple #[nk.v, .bool (keepO lk over la limit)]) ∧ Rd w' nk.a (keepC ks over ds limit) ∧ (keepC ks over ds limit).length = nk.n ∧ Below w.heap.size w w' := by
  cases over with
  | true =>
    have e1 : keepO lk true la limit = true := rfl
    have e2 : keepC ks true ds limit = ks := rfl
    rw [e1, e2]
    go_enter Try.func21, Try.ntmps21
    go_wp2_with fail
    go_ret2
    exact ⟨⟨ak, lk, ck⟩, rfl, hk, hlk, Below.refl _ _⟩
  | false =>
    by_cases hl : limit < (lk : Int) + (la : Int)
    · have e1 : keepO lk false la limit = true := by simp [keepO, hl]
      have e2 : keepC ks false ds limit = [] := by simp [keepC, hlk, hla, hl]
      rw [e1, e2]
      clear e1 e2
      go_enter Try.func21, Try.ntmps21
      go_wp2_with fail
      go_ret2
      exact ⟨nilS, rfl, rd_nil _ _, rfl, Below.refl _ _⟩
    · have e1 : keepO lk false la limit = false := by simp [keepO, hl]
      have e2 : keepC ks false ds limit = ks ++ ds := by simp [keepC, hlk, hla, hl]
      rw [e1, e2]
      clear e1 e2
      have HK : Hid (Rd w ak ks) := hk
      have HA : Hid (Rd w aa ds) := ha
      have HLK : Hid (ks.length = lk) := hlk
      have HLA : Hid (ds.length = la) := hla
      clear hk ha hlk hla
      go_enter Try.func21, Try.ntmps21
      go_wp2_with fail
      refine (concat_any _ _ _ _ _ _ ks ds _ HK.out HA.out HLK.out HLA.out hz).mono ?_
      rintro e w1 ⟨ao, rfl, ho, b1⟩
      have HO : Hid (Rd w1 ao (ks ++ ds)) := rd_of_owns ho
      have HB : Hid (Below w.heap.size w w1) := b1
      clear ho b1
      go_wp2_with fail
      go_ret2
      exact ⟨⟨ao, lk + la, lk + la⟩, rfl, HO.out, by rw [List.length_append, HLK.out, HLA.out], HB.out⟩
end Go.Proofs.Qxb6602575a
