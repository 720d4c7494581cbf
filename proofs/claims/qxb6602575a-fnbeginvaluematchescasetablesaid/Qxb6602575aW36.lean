import Derived.Test.Qxb6602575aW34
namespace Go.Proofs.Qxb6602575a
open Go.RowKit

theorem rd_dropS {w : World} {b off : Nat} {zs : List Int} (h : Rd w (some ⟨b, off, none⟩) zs) (n : Nat) : Rd w (some ⟨b, off + n, none⟩) (zs.drop n) := by
  have h1 := rd_drop h n
  have e : Option.map (fun x : Addr => x.add n) (some ⟨b, off, none⟩) = some ⟨b, off + n, none⟩ := by simp [Addr.add]
  rw [e] at h1; exact h1

theorem num_S2 {s T : Str} {i : Int} {k : Sl} (hT : T = tN s i k) (hTc : T.closers = s.closers) (ended : Bool) (phn : Nat) (ks zs : List Int) (E : Nat) (k2 : Sl) :
    ({ fin ended { tN s i k2 with number := (phn : Nat), state := 9 } ks zs E k2 with closers := s.closers } : Str) = fin ended { T with number := (phn : Nat), state := 9 } ks zs E k2 := by
  have e1 : tN s i k2 = { T with kept := k2 } := by rw [hT, tN_put]
  have e2 : fin ended { tN s i k2 with number := ((phn : Nat) : Int), state := 9 } ks zs E k2 = fin ended { T with number := ((phn : Nat) : Int), state := 9 } ks zs E k2 := by
    rw [e1]; exact fin_put ended { T with number := ((phn : Nat) : Int), state := 9 } ks zs E k2 k2
  rw [e2, ← hTc]
  have e3 := fin_closers ended { T with number := ((phn : Nat) : Int), state := 9 } ks zs E k2
  have e4 : ({ T with number := ((phn : Nat) : Int), state := 9 } : Str).closers = T.closers := rfl
  rw [e4] at e3
  generalize fin ended { T with number := ((phn : Nat) : Int), state := 9 } ks zs E k2 = F at e3 ⊢
  rw [← e3]
theorem num_C2 {s T : Str} {i : Int} {k : Sl} (hT : T = tN s i k) (ended : Bool) (phn : Nat) (ks zs : List Int) (E : Nat) :
    finC ended { tN s i nilS with number := (phn : Nat), state := 9 } ks zs E = finC ended { T with number := (phn : Nat), state := 9 } ks zs E := by
  have e1 : tN s i nilS = { T with kept := nilS } := by rw [hT, tN_put]
  rw [e1]
  exact finC_put ended { T with number := ((phn : Nat) : Int), state := 9 } ks zs E nilS

/-- What the model's part leaves of a number. -/
def N29 (w : World) (ap3 : Option Addr) (zs : List Int) (i : Nat) (s1 : Str) (C : Con) (base B2 : Nat) (t u : Value) (wx : World) : Prop :=
  ∃ (used : Int) (ended bad : Bool) (phn : Nat) (k cl : Sl), t = .int .i64 (table s1 C zs i used ended bad phn).ret ∧ u = .bool (table s1 C zs i used ended bad phn).bad ∧
    Scan (phText (phc (Pl.bt zs i)) ++ zs.drop (i + 1)) (phText (phc (Pl.bt zs i))).length (zs.length - (i + 1)) used ended bad phn ∧
    MS w ap3 zs s1 C base w.heap.size B2 ((table s1 C zs i used ended bad phn).S k cl) wx ∧ wx.ownsRow 0 5 1 k.v k.n (bys (table s1 C zs i used ended bad phn).kc) ∧ wx.ownsRow 0 5 1 cl.v cl.n (bys (table s1 C zs i used ended bad phn).cc)

theorem N29_mk {w : World} {ap3 : Option Addr} {zs : List Int} {i : Nat} {s1 T : Str} {C : Con} {base B2 : Nat} {t u : Value} {wx : World} {used : Int} {ended bad : Bool} {phn E : Nat} {k k2 : Sl} (hT : T = tN s1 i k)
    (h123 : ¬ Pl.bt zs i = 123) (h91 : ¬ Pl.bt zs i = 91) (h34 : ¬ Pl.bt zs i = 34) (h116 : ¬ Pl.bt zs i = 116) (h102 : ¬ Pl.bt zs i = 102) (h110 : ¬ Pl.bt zs i = 110) (hnum : numc (Pl.bt zs i) = true)
    (hE : E = (((i + 1 : Nat) : Int) + used).toNat) (ht : t = .int .i64 (if ended then ((i + 1 : Nat) : Int) + used else zs.length)) (hu : u = .bool bad)
    (hsc : Scan (phText (phc (Pl.bt zs i)) ++ zs.drop (i + 1)) (phText (phc (Pl.bt zs i))).length (zs.length - (i + 1)) used ended bad phn)
    (hm : MS w ap3 zs s1 C base w.heap.size B2 (fin ended { T with number := (phn : Nat), state := 9 } (kN s1 C.kept) zs E k2) wx) (hk : wx.ownsRow 0 5 1 k2.v k2.n (bys (finC ended { T with number := (phn : Nat), state := 9 } (kN s1 C.kept) zs E))) :
    N29 w ap3 zs i s1 C base B2 t u wx := by
  have hO : table s1 C zs i used ended bad phn = ⟨if ended then ((i + 1 : Nat) : Int) + used else zs.length, bad,
      fun k cl => { fin ended { tN s1 i k with number := (phn : Nat), state := 9 } (kN s1 C.kept) zs (((i + 1 : Nat) : Int) + used).toNat k with closers := cl },
      finC ended { tN s1 i nilS with number := (phn : Nat), state := 9 } (kN s1 C.kept) zs (((i + 1 : Nat) : Int) + used).toNat, C.closers⟩ := by
    unfold table; rw [if_neg (by omega), if_neg (by omega), if_neg (by omega), if_neg (by omega), if_neg (by omega), if_pos hnum]
  refine ⟨used, ended, bad, phn, k2, s1.closers, ?_⟩
  rw [hO]
  refine ⟨ht, hu, hsc, ?_, ?_, own_base hm.owned.closers (Nat.zero_le _)⟩
  · show MS w ap3 zs s1 C base w.heap.size B2 ({ fin ended { tN s1 i k2 with number := (phn : Nat), state := 9 } (kN s1 C.kept) zs (((i + 1 : Nat) : Int) + used).toNat k2 with closers := s1.closers } : Str) wx
    rw [num_S2 hT (by rw [hT, tN_closers]), ← hE]
    exact hm
  · show wx.ownsRow 0 5 1 k2.v k2.n (bys (finC ended { tN s1 i nilS with number := (phn : Nat), state := 9 } (kN s1 C.kept) zs (((i + 1 : Nat) : Int) + used).toNat))
    rw [num_C2 hT, ← hE]
    exact hk

set_option maxHeartbeats 4000000 in
set_option maxRecDepth 100000 in
theorem t29_num (w w9 : World) (ap3 : Option Addr) (zs : List Int) (i : Nat) (s1 : Str) (C : Con) (base B2 : Nat) (k : Sl) {u2 u3 u4 u9 u12 u13 u14 u15 u16 u17 u18 u19 u20 u21 u22 u23 u24 u25 u26 u27 u28 u29 u30 u31 u32 u33 u34 u35 u36 u37 u38 u39 u40 u41 u42 u43 u44 u45 u46 u47 u48 u49 u50 u51 u52 u53 u54 u55 u56 u57 u58 u59 u60 u61 u62 u63 u64 u65 u66 u67 u68 u69 u70 u71 u72 u73 u74 u75 u76 u77 u78 u79 u80 u81 u82 u83 u84 u85 u86 u87 u88 u89 u90 u91 u92 u93 u94 u95 u96 u97 u98 u99 u100 u101 u102 u103 u104 u105 u106 u107 u108 u109 u110 u111 u112 u113 u114 u115 u116 u117 u118 u119 u120 u121 u122 u123 u124 u125 u126 u127 u128 u129 u130 u131 u132 u133 u134 u135 u136 u137 u138 u139 u140 u141 u142 u143 u144 u145 u146 u147 u148 u149 u150 u151 u152 u153 u154 u155 u156 u157 u158 u159 u160 u161 u162 u163 u164 u165 u166 u167 u168 u169 u170 u171 u172 u173 u174 u175 u176 u177 u178 u179 u180 u181 u182 u183 u184 u185 u186 u187 u188 u189 u190 u191 u192 u193 u194 u195 u196 u197 u198 u199 u200 u201 u202 u203 u204 u205 u206 u207 u208 u209 u210 u211 u212 u213 u214 u215 u216 u217 u218 u219 u220 u221 u222 u223 u224 u225 u226 u227 u228 u229 u230 u231 u232 u233 u234 u235 u236 u237 u238 u239 u240 : Value}
    (hms : MS w ap3 zs s1 C base w.heap.size B2 (tN s1 i k) w9) (hk : w9.ownsRow 0 5 1 k.v k.n (bys (kN s1 C.kept))) (hsd : Sound s1) (hbr : s1.broken = false) (hi : i < zs.length) (hzl : zs.length ≤ 1048576) (hcn : s1.closers.n ≤ 10000)
    (hf : numc (Pl.bt zs i) = true → ¬ (s1.named = true ∧ s1.onPath = (s1.path.n : Int)) → s1.keepDepth = (s1.closers.n : Int) → 0 ≤ s1.keepFrom ∧ s1.keepFrom ≤ i)
    (h123 : ¬ Pl.bt zs i = 123) (h91 : ¬ Pl.bt zs i = 91) (h34 : ¬ Pl.bt zs i = 34) (h116 : ¬ Pl.bt zs i = 116) (h102 : ¬ Pl.bt zs i = 102) (h110 : ¬ Pl.bt zs i = 110) (hnum : numc (Pl.bt zs i) = true) :
    Code.wp Try.prog ((Try.f8.body.bind (fromRegion 29)).getD .skip) (bodyPost Try.prog Try.f8 fun e w' => e = .returned (.bool true) ∧ Below w.heap.size w w') ⟨#[.slice ap3 zs.length zs.length, .int .i64 ((i : Nat) : Int), u2, u3, u4, .pointer (some ⟨w.heap.size, 0, none⟩), .bool false, .int .u8 (Pl.bt zs i), .bool (numc (Pl.bt zs i)), u9, .pointer (some ⟨B2, 0, none⟩), .bool (entN s1 (Pl.bt zs i)), u12, u13, u14, u15, u16, u17, u18, u19, u20, u21, u22, u23, u24, u25, u26, u27, u28, u29, u30, u31, u32, u33, u34, u35, u36, u37, u38, u39, u40, u41, u42, u43, u44, u45, u46, u47, u48, u49, u50, u51, u52, u53, u54, u55, u56, u57, u58, u59, u60, u61, u62, u63, u64, u65, u66, u67, u68, u69, u70, u71, u72, u73, u74, u75, u76, u77, u78, u79, u80, u81, u82, u83, u84, u85, u86, u87, u88, u89, u90, u91, u92, u93, u94, u95, u96, u97, u98, u99, u100, u101, u102, u103, u104, u105, u106, u107, u108, u109, u110, u111, u112, u113, u114, u115, u116, u117, u118, u119, u120, u121, u122, u123, u124, u125, u126, u127, u128, u129, u130, u131, u132, u133, u134, u135, u136, u137, u138, u139, u140, u141, u142, u143, u144, u145, u146, u147, u148, u149, u150, u151, u152, u153, u154, u155, u156, u157, u158, u159, u160, u161, u162, u163, u164, u165, u166, u167, u168, u169, u170, u171, u172, u173, u174, u175, u176, u177, u178, u179, u180, u181, u182, u183, u184, u185, u186, u187, u188, u189, u190, u191, u192, u193, u194, u195, u196, u197, u198, u199, u200, u201, u202, u203, u204, u205, u206, u207, u208, u209, u210, u211, u212, u213, u214, u215, u216, u217, u218, u219, u220, u221, u222, u223, u224, u225, u226, u227, u228, u229, u230, u231, u232, u233, u234, u235, u236, u237, u238, u239, u240], []⟩ w9 := by
  conv => arg 2; whnf
  obtain ⟨b, off, rfl, _, _⟩ := rd_row (rd_of_owns hms.bytes) hi
  have HMK : Hid (∀ {T : Str} {t u : Value} {wx : World} {used : Int} {ended bad : Bool} {phn E : Nat} {k2 : Sl}, T = tN s1 i k → E = (((i + 1 : Nat) : Int) + used).toNat → t = .int .i64 (if ended then ((i + 1 : Nat) : Int) + used else zs.length) → u = .bool bad →
      Scan (phText (phc (Pl.bt zs i)) ++ zs.drop (i + 1)) (phText (phc (Pl.bt zs i))).length (zs.length - (i + 1)) used ended bad phn →
      MS w (some ⟨b, off, none⟩) zs s1 C base w.heap.size B2 (fin ended { T with number := (phn : Nat), state := 9 } (kN s1 C.kept) zs E k2) wx → wx.ownsRow 0 5 1 k2.v k2.n (bys (finC ended { T with number := (phn : Nat), state := 9 } (kN s1 C.kept) zs E)) →
      N29 w (some ⟨b, off, none⟩) zs i s1 C base B2 t u wx) := fun hT hE ht hu hs hm hk => N29_mk hT h123 h91 h34 h116 h102 h110 hnum hE ht hu hs hm hk
  have n1 : (Pl.bt zs i == 123) = false := by rw [beq_eq_false_iff_ne]; exact h123
  have n2 : (Pl.bt zs i == 91) = false := by rw [beq_eq_false_iff_ne]; exact h91
  have n3 : (Pl.bt zs i == 34) = false := by rw [beq_eq_false_iff_ne]; exact h34
  have n4 : (Pl.bt zs i == 116) = false := by rw [beq_eq_false_iff_ne]; exact h116
  have n5 : (Pl.bt zs i == 102) = false := by rw [beq_eq_false_iff_ne]; exact h102
  have n6 : (Pl.bt zs i == 110) = false := by rw [beq_eq_false_iff_ne]; exact h110
  have HNum : Hid (numc (Pl.bt zs i) = true) := hnum
  obtain ⟨T, hT⟩ : ∃ T, T = tN s1 (i : Int) k := ⟨_, rfl⟩
  rw [← hT] at hms
  have HT : Hid (T = tN s1 (i : Int) k) := hT
  have HM9 : Hid (MS w (some ⟨b, off, none⟩) zs s1 C base w.heap.size B2 T w9) := hms
  have HK9 : Hid (w9.ownsRow 0 5 1 k.v k.n (bys (kN s1 C.kept))) := hk
  have HSd : Hid (Sound s1) := hsd
  have HBr : Hid (s1.broken = false) := hbr
  have HF : Hid (numc (Pl.bt zs i) = true → ¬ (s1.named = true ∧ s1.onPath = (s1.path.n : Int)) → s1.keepDepth = (s1.closers.n : Int) → 0 ≤ s1.keepFrom ∧ s1.keepFrom ≤ i) := hf
  have hlt2 := HM9.out.ne
  have hne : w.heap.size ≠ B2 := by omega
  rw [hnum]
  clear hms hk hsd hbr hf hT h123 h91 h34 h116 h102 h110 hnum
  go_upto_if 126 with fail
  go_cut [12, 13] (fun t u wx => N29 w (some ⟨b, off, none⟩) zs i s1 C base B2 t u wx)
  case rest =>
    obtain ⟨used, ended, bad, phn, k2, cl, rfl, rfl, hs, h1, h2, h3⟩ := hcut
    go_step
    exact t76 w _ (some ⟨b, off, none⟩) zs i s1 C base B2 used ended bad phn _ _ k2 cl rfl rfl h1 h2 h3 HSd.out HBr.out hi hzl hcn HF.out (fun _ => hs)
  case first =>
    go_wp2_with fail
    refine (numberScan_any none (some ⟨b, off + i, none⟩) 0 0 (zs.length - i) (zs.length - i) [] (zs.drop i) _ (rd_nil _ _) (rd_dropS (rd_of_owns HM9.out.bytes) i) rfl (by simp) (by omega) (scan_pos hi HNum.out)).mono ?_
    rintro e w10 ⟨used, ended, bad, phn, rfl, hsc, b10⟩
    obtain ⟨used', hsc', hu⟩ := scan_first hi HNum.out hsc
    have HSc : Hid (Scan (phText (phc (Pl.bt zs i)) ++ zs.drop (i + 1)) (phText (phc (Pl.bt zs i))).length (zs.length - (i + 1)) used' ended bad phn) := hsc'
    have HU : Hid (ended = true → (i : Int) + used = ((i + 1 : Nat) : Int) + used') := hu
    have HM10 : Hid (MS w (some ⟨b, off, none⟩) zs s1 C base w.heap.size B2 T w10) := HM9.out.call (Nat.le_refl _) b10
    have HK10 : Hid (w10.ownsRow 0 5 1 k.v k.n (bys (kN s1 C.kept))) := owns_below HK9.out b10
    have x4 : w10.cell? ⟨B2, 4, none⟩ = some (.int .u8 T.state) := HM10.out.two.cell 4
    have y4 := HM10.out.two.free 4
    have x5 : w10.cell? ⟨B2, 5, none⟩ = some (.int .u8 T.number) := HM10.out.two.cell 5
    have y5 := HM10.out.two.free 5
    clear hsc hsc' hu b10 HM9 HK9
    go_upto_if 181 with fail
    obtain ⟨W9, hW9⟩ : ∃ W, W = (w10.setCell ⟨B2, 4, none⟩ (.int .u8 9)).setCell ⟨B2, 5, none⟩ (.int .u8 ((phn : Nat) : Int)) := ⟨_, rfl⟩
    rw [← hW9]
    obtain ⟨T', hT'⟩ : ∃ x : Str, x = { T with number := ((phn : Nat) : Int), state := 9 } := ⟨_, rfl⟩
    have HT' : Hid (T' = { T with number := ((phn : Nat) : Int), state := 9 }) := hT'
    have HW9 : Hid (MS w (some ⟨b, off, none⟩) zs s1 C base w.heap.size B2 T' W9 ∧ W9.ownsRow 0 5 1 k.v k.n (bys (kN s1 C.kept))) := by
      rw [hW9, hT']
      exact HM10.out.fin (Nat.le_refl _) HK10.out (((Only.refl B2 w10).setCell 4 _).setCell 5 _) ((HM10.out.two.fState 9).fNumber _)
    have HTk : Hid (T'.kept = k) := by show _ = _; rw [hT', HT.out]; exact tN_kept _ _ _
    have HTc : Hid (T'.closers = s1.closers) := by show _ = _; rw [hT', HT.out]; exact tN_closers _ _ _
    clear hW9 x4 y4 x5 y5 hT' HM10 HK10
    have c2 : W9.cell? ⟨w.heap.size, 2, none⟩ = some s1.closers.v := HW9.out.1.one.cell 2
    cases ended with
    | false =>
      go_wp2_with fail
      go_meet
      refine HMK.out (E := (((i + 1 : Nat) : Int) + used').toNat) (k2 := k) HT.out rfl rfl rfl HSc.out ?_ ?_
      · show MS w (some ⟨b, off, none⟩) zs s1 C base w.heap.size B2 ({ { T with number := (phn : Nat), state := 9 } with kept := k } : Str) _
        have h9 := HW9.out.1
        have e9 : ({ { T with number := (phn : Nat), state := 9 } with kept := k } : Str) = T' := by rw [← HTk.out, HT'.out]
        rw [e9]; exact h9
      · exact HW9.out.2
    | true =>
      obtain ⟨u', rfl, hu'⟩ := scan_end (phc_le _) (by omega) HSc.out
      obtain ⟨u, hud⟩ : ∃ u : Nat, u = u' + 1 := ⟨_, rfl⟩
      obtain rfl : used = (u : Int) := by have := HU.out rfl; omega
      have hul : i + u < zs.length := by omega
      have HEe : Hid (i + u = (((i + 1 : Nat) : Int) + ((u' : Nat) : Int)).toNat) := by show _ = _; omega
      have HRt : Hid (((i : Nat) : Int) + ((u : Nat) : Int) = ((i + 1 : Nat) : Int) + ((u' : Nat) : Int)) := by show _ = _; omega
      clear HU hud hu'
      have c15 : W9.cell? ⟨B2, 15, none⟩ = some (.int .i64 T'.keepDepth) := HW9.out.1.two.cell 15
      by_cases hd : T'.keepDepth = (s1.closers.n : Int)
      · have hf0 : 0 ≤ T'.keepFrom ∧ T'.keepFrom ≤ ((i + 1 : Nat) : Int) := by
          have h9 := tN_from HT.out (HF.out HNum.out)
          rw [HT'.out] at hd ⊢
          exact h9 hd
        obtain ⟨h0, hfj⟩ := hf0
        have hdb : (T'.keepDepth == (s1.closers.n : Int)) = true := by rw [beq_iff_eq]; exact hd
        obtain ⟨fr, hfr⟩ := Int.eq_ofNat_of_zero_le h0
        have hfn : fr ≤ i + u := by have := HRt.out; omega
        have c16 : W9.cell? ⟨B2, 16, none⟩ = some (.int .i64 ((fr : Nat) : Int)) := by rw [HW9.out.1.two.cell 16, ← hfr]; rfl
        have c17 : W9.cell? ⟨B2, 17, none⟩ = some (.slice T'.kept.a T'.kept.n T'.kept.c) := HW9.out.1.two.cell 17
        have c18 : W9.cell? ⟨B2, 18, none⟩ = some (.bool T'.over) := HW9.out.1.two.cell 18
        have c1 : W9.cell? ⟨B2, 1, none⟩ = some (.int .i64 T'.limit) := HW9.out.1.two.cell 1
        have hkl : (kN s1 C.kept).length + zs.length ≤ 1099511627776 := by
          have h9 := kN_le s1 C.kept
          have h8 := HW9.out.1.owned.reads.keptN
          have h7 := HSd.out.keptL
          omega
        have HD : Hid (T'.keepDepth = (T'.closers.n : Int)) := by show _ = _; rw [HTc.out]; exact hd
        have HKM : Hid (Calls Try.prog 21 #[.slice T'.kept.a T'.kept.n T'.kept.c, .bool T'.over, .slice (some ⟨b, off + fr, none⟩) (i + u - fr) (zs.length - fr), .int .i64 T'.limit] W9.drew fun e w' =>
            ∃ nk : Sl, e = .returned (.tuple #[nk.v, .bool (endO T' (kN s1 C.kept) zs (i + u))]) ∧ w'.ownsRow 0 5 1 nk.v nk.n (bys (endC T' (kN s1 C.kept) zs (i + u))) ∧ Below W9.drew.heap.size W9.drew w') :=
          keepModel_end (s := T') HD.out hfr hfn (by omega) hkl b off W9.drew (by rw [HTk.out]; exact HW9.out.2) (rd_of_owns HW9.out.1.bytes)
        generalize hO : endO T' (kN s1 C.kept) zs (i + u) = O at HKM
        have HO : Hid (endO T' (kN s1 C.kept) zs (i + u) = O) := hO
        have hb0 : (0 : Int) ≤ ((fr : Nat) : Int) := by omega
        have hb1 : ((fr : Nat) : Int) ≤ ((i : Nat) : Int) + ((u : Nat) : Int) := by omega
        have hb2 : ((i : Nat) : Int) + ((u : Nat) : Int) ≤ ((zs.length : Nat) : Int) := by omega
        have hb3 : ¬ zs.length = fr := by omega
        have hb4 : (((i : Nat) : Int) + ((u : Nat) : Int)).toNat = i + u := by omega
        clear hO hd h0 hfj hfr hkl
        go_wp2_with fail
        go_region_held3 (fun w' => w'.cell? ⟨B2, 17, none⟩ = some (.slice T'.kept.a T'.kept.n T'.kept.c) ∧ w'.cell? ⟨B2, 18, none⟩ = some (.bool T'.over) ∧ w'.cell? ⟨B2, 16, none⟩ = some (.int .i64 ((fr : Nat) : Int)) ∧ w'.cell? ⟨B2, 1, none⟩ = some (.int .i64 T'.limit)) (go_keep)
          (first | (go_at_call 21; refine HKM.out.mono ?_; rintro e w10 ⟨nk, rfl, hnk, b10⟩; have b10' := below_of_drew b10; have k17 := ((HW9.out.1.two.below b10').cell 17).trans ((HW9.out.1.two.cell 17).symm.trans c17); have k18 := ((HW9.out.1.two.below b10').cell 18).trans ((HW9.out.1.two.cell 18).symm.trans c18); have k16 := ((HW9.out.1.two.below b10').cell 16).trans ((HW9.out.1.two.cell 16).symm.trans c16); have k1 := ((HW9.out.1.two.below b10').cell 1).trans ((HW9.out.1.two.cell 1).symm.trans c1)))
        have HM11 : Hid (MS w (some ⟨b, off, none⟩) zs s1 C base w.heap.size B2 T' w10) := HW9.out.1.call (Nat.le_refl _) b10'
        have HNk : Hid (w10.ownsRow 0 5 1 nk.v nk.n (bys (endC T' (kN s1 C.kept) zs (i + u)))) := hnk
        have d17 : w10.cell? ⟨B2, 17, none⟩ = some T'.kept.v := HM11.out.two.cell 17
        have d18 : w10.cell? ⟨B2, 18, none⟩ = some (.bool T'.over) := HM11.out.two.cell 18
        have d15 : w10.cell? ⟨B2, 15, none⟩ = some (.int .i64 T'.keepDepth) := HM11.out.two.cell 15
        have d19 : w10.cell? ⟨B2, 19, none⟩ = some (.bool T'.found) := HM11.out.two.cell 19
        have d4 : w10.cell? ⟨B2, 4, none⟩ = some (.int .u8 T'.state) := HM11.out.two.cell 4
        have e17 := HM11.out.two.free 17
        have e18 := HM11.out.two.free 18
        have e15 := HM11.out.two.free 15
        have e19 := HM11.out.two.free 19
        have e4 := HM11.out.two.free 4
        have q2 : w10.cell? ⟨w.heap.size, 2, none⟩ = some s1.closers.v := HM11.out.one.cell 2
        clear b10 b10' hnk k17 k18 k16 k1 c15 c2 c16 c17 c18 c1 HKM HW9 hb0 hb1 hb2 hb3 hb4 hdb
        by_cases hn0 : s1.closers.n = 0
        · have hnb : ((s1.closers.n : Int) == 0) = true := by rw [beq_iff_eq]; omega
          have HFi : Hid (fin true T' (kN s1 C.kept) zs (i + u) nk = { T' with kept := nk, over := O, keepDepth := -1, found := !O, state := 7 }) := by
            show endS T' (kN s1 C.kept) zs (i + u) nk = _
            have h7 : T'.closers.n = 0 := by rw [HTc.out]; exact hn0
            unfold endS; rw [if_pos HD.out]; unfold stE; rw [if_pos h7, HO.out]
          clear hn0
          go_wp2_with fail
          go_simp
          go_meet
          have hX := HM11.out.fin (Nat.le_refl _) HNk.out ((((((Only.refl B2 w10).setCell 17 nk.v).setCell 18 (.bool O)).setCell 15 (.int .i64 (-1))).setCell 19 (.bool !O)).setCell 4 (.int .u8 6) |>.setCell 4 (.int .u8 7)) ((((((HM11.out.two.fKept nk).fOver O).fKeepDepth (-1)).fFound (!O)).fState 6).fState 7)
          refine HMK.out (E := i + u) (k2 := nk) HT.out HEe.out (by rw [HRt.out]; rfl) rfl HSc.out ?_ ?_
          · rw [← HT'.out, HFi.out]; exact hX.1
          · rw [← HT'.out]; exact hX.2
        · have hnb : ((s1.closers.n : Int) == 0) = false := by rw [beq_eq_false_iff_ne]; omega
          have HFi : Hid (fin true T' (kN s1 C.kept) zs (i + u) nk = { T' with kept := nk, over := O, keepDepth := -1, found := !O, state := 6 }) := by
            show endS T' (kN s1 C.kept) zs (i + u) nk = _
            have h7 : ¬ T'.closers.n = 0 := by rw [HTc.out]; exact hn0
            unfold endS; rw [if_pos HD.out]; unfold stE; rw [if_neg h7, HO.out]
          clear hn0
          go_wp2_with fail
          go_simp
          go_meet
          have hX := HM11.out.fin (Nat.le_refl _) HNk.out (((((Only.refl B2 w10).setCell 17 nk.v).setCell 18 (.bool O)).setCell 15 (.int .i64 (-1))).setCell 19 (.bool !O) |>.setCell 4 (.int .u8 6)) (((((HM11.out.two.fKept nk).fOver O).fKeepDepth (-1)).fFound (!O)).fState 6)
          refine HMK.out (E := i + u) (k2 := nk) HT.out HEe.out (by rw [HRt.out]; rfl) rfl HSc.out ?_ ?_
          · rw [← HT'.out, HFi.out]; exact hX.1
          · rw [← HT'.out]; exact hX.2
      · have hdb : (T'.keepDepth == (s1.closers.n : Int)) = false := by rw [beq_eq_false_iff_ne]; exact hd
        have d4 : W9.cell? ⟨B2, 4, none⟩ = some (.int .u8 T'.state) := HW9.out.1.two.cell 4
        have e4 := HW9.out.1.two.free 4
        have HD : Hid (¬ T'.keepDepth = (T'.closers.n : Int)) := by show ¬ _; rw [HTc.out]; exact hd
        have HKp : Hid (W9.ownsRow 0 5 1 k.v k.n (bys (finC true T' (kN s1 C.kept) zs (i + u)))) := by
          show W9.ownsRow 0 5 1 k.v k.n (bys (endC T' (kN s1 C.kept) zs (i + u)))
          unfold endC; rw [if_neg HD.out]; exact HW9.out.2
        by_cases hn0 : s1.closers.n = 0
        · have hnb : ((s1.closers.n : Int) == 0) = true := by rw [beq_iff_eq]; omega
          have HFi : Hid (fin true T' (kN s1 C.kept) zs (i + u) k = { T' with state := 7 }) := by
            show endS T' (kN s1 C.kept) zs (i + u) k = _
            have h7 : T'.closers.n = 0 := by rw [HTc.out]; exact hn0
            unfold endS; rw [if_neg HD.out]; unfold stE; rw [if_pos h7, ← HTk.out]
          clear hn0 hd
          go_wp2_with fail
          go_simp
          go_meet
          have hX := HW9.out.1.fin (Nat.le_refl _) HKp.out (((Only.refl B2 W9).setCell 4 (.int .u8 6)).setCell 4 (.int .u8 7)) ((HW9.out.1.two.fState 6).fState 7)
          refine HMK.out (E := i + u) (k2 := k) HT.out HEe.out (by rw [HRt.out]; rfl) rfl HSc.out ?_ ?_
          · rw [← HT'.out, HFi.out]; exact hX.1
          · rw [← HT'.out]; exact hX.2
        · have hnb : ((s1.closers.n : Int) == 0) = false := by rw [beq_eq_false_iff_ne]; omega
          have HFi : Hid (fin true T' (kN s1 C.kept) zs (i + u) k = { T' with state := 6 }) := by
            show endS T' (kN s1 C.kept) zs (i + u) k = _
            have h7 : ¬ T'.closers.n = 0 := by rw [HTc.out]; exact hn0
            unfold endS; rw [if_neg HD.out]; unfold stE; rw [if_neg h7, ← HTk.out]
          clear hn0 hd
          go_wp2_with fail
          go_simp
          go_meet
          have hX := HW9.out.1.fin (Nat.le_refl _) HKp.out ((Only.refl B2 W9).setCell 4 (.int .u8 6)) (HW9.out.1.two.fState 6)
          refine HMK.out (E := i + u) (k2 := k) HT.out HEe.out (by rw [HRt.out]; rfl) rfl HSc.out ?_ ?_
          · rw [← HT'.out, HFi.out]; exact hX.1
          · rw [← HT'.out]; exact hX.2
end Go.Proofs.Qxb6602575a
