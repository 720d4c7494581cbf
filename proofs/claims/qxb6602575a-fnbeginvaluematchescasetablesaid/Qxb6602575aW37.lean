import Derived.Test.Qxb6602575aW35
import Derived.Test.Qxb6602575aW36
namespace Go.Proofs.Qxb6602575a
open Go.RowKit

theorem numc_lit (c : Int) (h : c = 123 ∨ c = 91 ∨ c = 34 ∨ c = 116 ∨ c = 102 ∨ c = 110) : numc c = false := by
  rcases h with rfl | rfl | rfl | rfl | rfl | rfl <;> decide

theorem t29 (w w9 : World) (ap3 : Option Addr) (zs : List Int) (i : Nat) (s1 : Str) (C : Con) (base B2 : Nat) (k : Sl) {u2 u3 u4 u9 u12 u13 u14 u15 u16 u17 u18 u19 u20 u21 u22 u23 u24 u25 u26 u27 u28 u29 u30 u31 u32 u33 u34 u35 u36 u37 u38 u39 u40 u41 u42 u43 u44 u45 u46 u47 u48 u49 u50 u51 u52 u53 u54 u55 u56 u57 u58 u59 u60 u61 u62 u63 u64 u65 u66 u67 u68 u69 u70 u71 u72 u73 u74 u75 u76 u77 u78 u79 u80 u81 u82 u83 u84 u85 u86 u87 u88 u89 u90 u91 u92 u93 u94 u95 u96 u97 u98 u99 u100 u101 u102 u103 u104 u105 u106 u107 u108 u109 u110 u111 u112 u113 u114 u115 u116 u117 u118 u119 u120 u121 u122 u123 u124 u125 u126 u127 u128 u129 u130 u131 u132 u133 u134 u135 u136 u137 u138 u139 u140 u141 u142 u143 u144 u145 u146 u147 u148 u149 u150 u151 u152 u153 u154 u155 u156 u157 u158 u159 u160 u161 u162 u163 u164 u165 u166 u167 u168 u169 u170 u171 u172 u173 u174 u175 u176 u177 u178 u179 u180 u181 u182 u183 u184 u185 u186 u187 u188 u189 u190 u191 u192 u193 u194 u195 u196 u197 u198 u199 u200 u201 u202 u203 u204 u205 u206 u207 u208 u209 u210 u211 u212 u213 u214 u215 u216 u217 u218 u219 u220 u221 u222 u223 u224 u225 u226 u227 u228 u229 u230 u231 u232 u233 u234 u235 u236 u237 u238 u239 u240 : Value}
    (hms : MS w ap3 zs s1 C base w.heap.size B2 (tN s1 i k) w9) (hk : w9.ownsRow 0 5 1 k.v k.n (bys (kN s1 C.kept))) (hsd : Sound s1) (hbr : s1.broken = false) (hi : i < zs.length) (hzl : zs.length ≤ 1048576) (hcn : s1.closers.n ≤ 10000)
    (hf : numc (Pl.bt zs i) = true → ¬ (s1.named = true ∧ s1.onPath = (s1.path.n : Int)) → s1.keepDepth = (s1.closers.n : Int) → 0 ≤ s1.keepFrom ∧ s1.keepFrom ≤ i) :
    Code.wp Try.prog ((Try.f8.body.bind (fromRegion 29)).getD .skip) (bodyPost Try.prog Try.f8 fun e w' => e = .returned (.bool true) ∧ Below w.heap.size w w') ⟨#[.slice ap3 zs.length zs.length, .int .i64 ((i : Nat) : Int), u2, u3, u4, .pointer (some ⟨w.heap.size, 0, none⟩), .bool false, .int .u8 (Pl.bt zs i), .bool (numc (Pl.bt zs i)), u9, .pointer (some ⟨B2, 0, none⟩), .bool (entN s1 (Pl.bt zs i)), u12, u13, u14, u15, u16, u17, u18, u19, u20, u21, u22, u23, u24, u25, u26, u27, u28, u29, u30, u31, u32, u33, u34, u35, u36, u37, u38, u39, u40, u41, u42, u43, u44, u45, u46, u47, u48, u49, u50, u51, u52, u53, u54, u55, u56, u57, u58, u59, u60, u61, u62, u63, u64, u65, u66, u67, u68, u69, u70, u71, u72, u73, u74, u75, u76, u77, u78, u79, u80, u81, u82, u83, u84, u85, u86, u87, u88, u89, u90, u91, u92, u93, u94, u95, u96, u97, u98, u99, u100, u101, u102, u103, u104, u105, u106, u107, u108, u109, u110, u111, u112, u113, u114, u115, u116, u117, u118, u119, u120, u121, u122, u123, u124, u125, u126, u127, u128, u129, u130, u131, u132, u133, u134, u135, u136, u137, u138, u139, u140, u141, u142, u143, u144, u145, u146, u147, u148, u149, u150, u151, u152, u153, u154, u155, u156, u157, u158, u159, u160, u161, u162, u163, u164, u165, u166, u167, u168, u169, u170, u171, u172, u173, u174, u175, u176, u177, u178, u179, u180, u181, u182, u183, u184, u185, u186, u187, u188, u189, u190, u191, u192, u193, u194, u195, u196, u197, u198, u199, u200, u201, u202, u203, u204, u205, u206, u207, u208, u209, u210, u211, u212, u213, u214, u215, u216, u217, u218, u219, u220, u221, u222, u223, u224, u225, u226, u227, u228, u229, u230, u231, u232, u233, u234, u235, u236, u237, u238, u239, u240], []⟩ w9 := by
  by_cases h123 : Pl.bt zs i = 123
  · have hnn := numc_lit _ (Or.inl h123)
    by_cases hfull : s1.closers.n = 10000
    · exact t29_full123 w w9 ap3 zs i s1 C base B2 k hms hk hsd hbr hi hzl hcn hf h123 hfull hnn
    · rcases Bool.eq_false_or_eq_true (entN s1 (Pl.bt zs i)) with hen | hen
      · exact t29_b123true w w9 ap3 zs i s1 C base B2 k hms hk hsd hbr hi hzl hcn hf h123 hfull hen hnn
      · exact t29_b123false w w9 ap3 zs i s1 C base B2 k hms hk hsd hbr hi hzl hcn hf h123 hfull hen hnn
  by_cases h91 : Pl.bt zs i = 91
  · have hnn := numc_lit _ (Or.inr (Or.inl h91))
    by_cases hfull : s1.closers.n = 10000
    · exact t29_full91 w w9 ap3 zs i s1 C base B2 k hms hk hsd hbr hi hzl hcn hf h91 hfull hnn
    · rcases Bool.eq_false_or_eq_true (entN s1 (Pl.bt zs i)) with hen | hen
      · exact t29_b91true w w9 ap3 zs i s1 C base B2 k hms hk hsd hbr hi hzl hcn hf h123 h91 hfull hen hnn
      · exact t29_b91false w w9 ap3 zs i s1 C base B2 k hms hk hsd hbr hi hzl hcn hf h123 h91 hfull hen hnn
  by_cases h34 : Pl.bt zs i = 34
  · exact t29_c34 w w9 ap3 zs i s1 C base B2 k hms hk hsd hbr hi hzl hcn hf h34 (numc_lit _ (Or.inr (Or.inr (Or.inl h34))))
  by_cases h116 : Pl.bt zs i = 116
  · exact t29_c116 w w9 ap3 zs i s1 C base B2 k hms hk hsd hbr hi hzl hcn hf h116 (numc_lit _ (Or.inr (Or.inr (Or.inr (Or.inl h116)))))
  by_cases h102 : Pl.bt zs i = 102
  · exact t29_c102 w w9 ap3 zs i s1 C base B2 k hms hk hsd hbr hi hzl hcn hf h102 (numc_lit _ (Or.inr (Or.inr (Or.inr (Or.inr (Or.inl h102))))))
  by_cases h110 : Pl.bt zs i = 110
  · exact t29_c110 w w9 ap3 zs i s1 C base B2 k hms hk hsd hbr hi hzl hcn hf h110 (numc_lit _ (Or.inr (Or.inr (Or.inr (Or.inr (Or.inr h110))))))
  rcases Bool.eq_false_or_eq_true (numc (Pl.bt zs i)) with hnum | hnum
  · exact t29_num w w9 ap3 zs i s1 C base B2 k hms hk hsd hbr hi hzl hcn hf h123 h91 h34 h116 h102 h110 hnum
  · exact t29_bad w w9 ap3 zs i s1 C base B2 k hms hk hsd hbr hi hzl hcn hf h123 h91 h34 h116 h102 h110 hnum

set_option maxHeartbeats 4000000 in
set_option maxRecDepth 100000 in
theorem t16 (w w2 : World) (ap : Option Addr) (cp : Nat) (zs : List Int) (i : Nat) (s : Str) (C : Con) {u2 u3 u4 u9 u10 u11 u12 u13 u14 u15 u16 u17 u18 u19 u20 u21 u22 u23 u24 u25 u26 u27 u28 u29 u30 u31 u32 u33 u34 u35 u36 u37 u38 u39 u40 u41 u42 u43 u44 u45 u46 u47 u48 u49 u50 u51 u52 u53 u54 u55 u56 u57 u58 u59 u60 u61 u62 u63 u64 u65 u66 u67 u68 u69 u70 u71 u72 u73 u74 u75 u76 u77 u78 u79 u80 u81 u82 u83 u84 u85 u86 u87 u88 u89 u90 u91 u92 u93 u94 u95 u96 u97 u98 u99 u100 u101 u102 u103 u104 u105 u106 u107 u108 u109 u110 u111 u112 u113 u114 u115 u116 u117 u118 u119 u120 u121 u122 u123 u124 u125 u126 u127 u128 u129 u130 u131 u132 u133 u134 u135 u136 u137 u138 u139 u140 u141 u142 u143 u144 u145 u146 u147 u148 u149 u150 u151 u152 u153 u154 u155 u156 u157 u158 u159 u160 u161 u162 u163 u164 u165 u166 u167 u168 u169 u170 u171 u172 u173 u174 u175 u176 u177 u178 u179 u180 u181 u182 u183 u184 u185 u186 u187 u188 u189 u190 u191 u192 u193 u194 u195 u196 u197 u198 u199 u200 u201 u202 u203 u204 u205 u206 u207 u208 u209 u210 u211 u212 u213 u214 u215 u216 u217 u218 u219 u220 u221 u222 u223 u224 u225 u226 u227 u228 u229 u230 u231 u232 u233 u234 u235 u236 u237 u238 u239 u240 : Value}
    (hp : Rd w2 ap zs) (hpn : ap = none → cp = 0) (hB : Blk w2 w.heap.size 30 s.cells30) (hbw : Below w.heap.size w w2) (hr : Reads w2 s C) (hsd : Sound s) (hbr : s.broken = false) (hi : i < zs.length) (hzl : zs.length ≤ 1048576) (hcn : s.closers.n ≤ 10000)
    (hf : numc (Pl.bt zs i) = true → ¬ (s.named = true ∧ s.onPath = (s.path.n : Int)) → s.keepDepth = (s.closers.n : Int) → 0 ≤ s.keepFrom ∧ s.keepFrom ≤ i) :
    Code.wp Try.prog ((Try.f8.body.bind (fromRegion 16)).getD .skip) (bodyPost Try.prog Try.f8 fun e w' => e = .returned (.bool true) ∧ Below w.heap.size w w') ⟨#[.slice ap zs.length cp, .int .i64 ((i : Nat) : Int), u2, u3, u4, .pointer (some ⟨w.heap.size, 0, none⟩), .bool false, .int .u8 (Pl.bt zs i), .bool (numc (Pl.bt zs i)), u9, u10, u11, u12, u13, u14, u15, u16, u17, u18, u19, u20, u21, u22, u23, u24, u25, u26, u27, u28, u29, u30, u31, u32, u33, u34, u35, u36, u37, u38, u39, u40, u41, u42, u43, u44, u45, u46, u47, u48, u49, u50, u51, u52, u53, u54, u55, u56, u57, u58, u59, u60, u61, u62, u63, u64, u65, u66, u67, u68, u69, u70, u71, u72, u73, u74, u75, u76, u77, u78, u79, u80, u81, u82, u83, u84, u85, u86, u87, u88, u89, u90, u91, u92, u93, u94, u95, u96, u97, u98, u99, u100, u101, u102, u103, u104, u105, u106, u107, u108, u109, u110, u111, u112, u113, u114, u115, u116, u117, u118, u119, u120, u121, u122, u123, u124, u125, u126, u127, u128, u129, u130, u131, u132, u133, u134, u135, u136, u137, u138, u139, u140, u141, u142, u143, u144, u145, u146, u147, u148, u149, u150, u151, u152, u153, u154, u155, u156, u157, u158, u159, u160, u161, u162, u163, u164, u165, u166, u167, u168, u169, u170, u171, u172, u173, u174, u175, u176, u177, u178, u179, u180, u181, u182, u183, u184, u185, u186, u187, u188, u189, u190, u191, u192, u193, u194, u195, u196, u197, u198, u199, u200, u201, u202, u203, u204, u205, u206, u207, u208, u209, u210, u211, u212, u213, u214, u215, u216, u217, u218, u219, u220, u221, u222, u223, u224, u225, u226, u227, u228, u229, u230, u231, u232, u233, u234, u235, u236, u237, u238, u239, u240], []⟩ w2 := by
  conv => arg 2; whnf
  have HP : Hid (Rd w2 ap zs) := hp
  have HPN : Hid (ap = none → cp = 0) := hpn
  have HK2 : Hid (Blk w2 w.heap.size 30 s.cells30 ∧ Below w.heap.size w w2) := ⟨hB, hbw⟩
  have HR : Hid (Reads w2 s C) := hr
  have HSd : Hid (Sound s) := hsd
  have HBr : Hid (s.broken = false) := hbr
  have HF : Hid (numc (Pl.bt zs i) = true → ¬ (s.named = true ∧ s.onPath = (s.path.n : Int)) → s.keepDepth = (s.closers.n : Int) → 0 ≤ s.keepFrom ∧ s.keepFrom ≤ i) := hf
  clear hp hpn hB hbw hr hsd hbr hf
  go_wp2_with fail
  refine (clone_any _ _ _ zs _ HP.out rfl HPN.out (by omega)).mono ?_
  rintro e w3 ⟨ap3, rfl, hp3, b3⟩
  have HK3 : Hid (Blk w3 w.heap.size 30 s.cells30 ∧ Below w.heap.size w w3) := ⟨HK2.out.1.below b3, HK2.out.2.trans (b3.mono HK2.out.2.size)⟩
  have HP3 : Hid (w3.ownsRow 0 5 1 (.slice ap3 zs.length zs.length) zs.length (bys zs)) := own_base hp3 (Nat.zero_le _)
  have HR3 : Hid (Reads w3 s C) := HR.out.below b3
  clear b3 hp3 HK2 HR HP
  go_wp2_with (refine wpList_load_row (o := { dst := some 96, op := .load 30 (.tmp 5), type := _, pos := _, after := _, guard := _ }) rfl 30 _ rfl w.heap.size rfl 30 s.cells30 (0, 0) _ HK3.out.1 Try.underlying30 rfl Try.info30 ?_)
  refine (cloneStream_any s C _ HR3.out HSd.out).mono ?_
  rintro e w4 ⟨p4, c4, n4, k4, rfl, ho4, b4⟩
  generalize hs1 : s.with4 p4 c4 n4 k4 = s1 at ho4 ⊢
  have HS1 : Hid (s.with4 p4 c4 n4 k4 = s1) := hs1
  clear hs1
  have HK4 : Hid (Blk w4 w.heap.size 30 s.cells30 ∧ Below w.heap.size w w4) := ⟨HK3.out.1.below b4, HK3.out.2.trans (b4.mono HK3.out.2.size)⟩
  have HP4 : Hid (w4.ownsRow 0 5 1 (.slice ap3 zs.length zs.length) zs.length (bys zs)) := owns_below HP3.out b4
  have HO4 : Hid (Owned w4 w3.heap.size s1 C) := ho4
  clear b4 ho4 HK3 HP3 HR3
  go_upto_region 18 with (refine wpList_store_row (o := { dst := none, op := .store 30 (.tmp 5) (.tmp 97), type := _, pos := _, after := _, guard := _ }) rfl 30 _ _ rfl w.heap.size s1.cells30 rfl rfl 30 s.cells30 HK4.out.1 Try.info30 rfl (Str.one30 _) ?_)
  go_simp
  obtain ⟨w7, hw7⟩ : ∃ W, W = w4.setRow w.heap.size s1.cells30 := ⟨_, rfl⟩
  rw [← hw7]
  have HW7 : Hid (Blk w7 w.heap.size 30 s1.cells30 ∧ Below w.heap.size w w7 ∧ w7.ownsRow 0 5 1 (.slice ap3 zs.length zs.length) zs.length (bys zs) ∧ Owned w7 w3.heap.size s1 C) := by
    rw [hw7]; exact ⟨setRow_heap _ _ _ _ _ _ HK4.out.1, HK4.out.2.trans ((only_setRow _ _ _).below (Nat.le_refl _) (by have := HK4.out.1.lt; omega)), own_row HP4.out HK4.out.1 (by decide), HO4.out.row HK4.out.1⟩
  clear hw7 HK4 HP4 HO4
  go_cut [10] (fun t wx => t = .pointer (some ⟨w7.heap.size, 0, none⟩) ∧ Blk wx w.heap.size 30 s1.cells30 ∧ Blk wx w7.heap.size 30 s1.cells30 ∧ Below w7.heap.size w7 wx)
  case first =>
    go_wp2_with (first
      | (refine wpList_load_row (o := { dst := some 98, op := .load 30 (.tmp 5), type := _, pos := _, after := _, guard := _ }) rfl 30 _ rfl w.heap.size rfl 30 s1.cells30 (0, 0) _ HW7.out.1 Try.underlying30 rfl Try.info30 ?_)
      | (refine wpList_store_newg (o := { dst := none, op := .store 30 (.tmp 10) (.tmp 98), type := _, pos := _, after := _, guard := _ }) rfl 30 _ _ rfl s1.cells30 _ w7.heap.size rfl rfl rfl Try.info30 rfl (Str.one30 _) ?_))
    go_simp
    go_meet
    exact ⟨rfl, HW7.out.1.alloc _, Blk.last w7 30 _, (Below.refl _ _).alloc (Nat.le_refl _) _⟩
  case rest =>
  rename World => w8
  obtain ⟨rfl, hBa, hBb, hb8⟩ := hcut
  obtain ⟨B2, hB2⟩ : ∃ B, B = w7.heap.size := ⟨_, rfl⟩
  rw [← hB2] at hBb ⊢
  have hlt2 : w.heap.size < B2 := by rw [hB2]; exact HW7.out.1.lt
  have HM8 : Hid (MS w ap3 zs s1 C w3.heap.size w.heap.size B2 s1 w8) :=
    ⟨hBa, hBb, HW7.out.2.1.trans (hb8.mono HW7.out.2.1.size), owns_below HW7.out.2.2.1 hb8, HW7.out.2.2.2.below hb8, hlt2⟩
  clear hBa hBb hb8 hB2 HW7 w7
  have hne : w.heap.size ≠ B2 := by omega
  have c12 : w8.cell? ⟨w.heap.size, 12, none⟩ = some (.bool s1.named) := HM8.out.one.cell 12
  have c3 : w8.cell? ⟨w.heap.size, 3, none⟩ = some (.int .i64 s1.onPath) := HM8.out.one.cell 3
  have c0 : w8.cell? ⟨w.heap.size, 0, none⟩ = some s1.path.v := HM8.out.one.cell 0
  have c2 : w8.cell? ⟨w.heap.size, 2, none⟩ = some s1.closers.v := HM8.out.one.cell 2
  go_upto_if 100 with fail
  go_cut [11] (fun t wx => t = .bool (entN s1 (Pl.bt zs i)) ∧ ∃ k : Sl, MS w ap3 zs s1 C w3.heap.size w.heap.size B2 (tN s1 i k) wx ∧ wx.ownsRow 0 5 1 k.v k.n (bys (kN s1 C.kept)))
  case first =>
    have d12 : w8.cell? ⟨B2, 12, none⟩ = some (.bool s1.named) := HM8.out.two.cell 12
    have d19 : w8.cell? ⟨B2, 19, none⟩ = some (.bool s1.found) := HM8.out.two.cell 19
    have f12 := HM8.out.two.free 12
    have f19 := HM8.out.two.free 19
    cases hnm : s1.named with
    | false =>
      have HNm : Hid (s1.named = false) := hnm
      rw [hnm] at c12 d12
      clear hnm
      go_wp2_with fail
      go_meet
      refine ⟨by unfold entN; rw [HNm.out]; rfl, s1.kept, ?_, ?_⟩
      · unfold tN; rw [if_neg (by rw [HNm.out]; decide)]; exact HM8.out
      · unfold kN; rw [if_neg (by rw [HNm.out]; intro h; cases h.1)]; exact HM8.out.owned.kept0
    | true =>
      have HNm : Hid (s1.named = true) := hnm
      rw [hnm] at c12 d12
      clear hnm
      by_cases hd : s1.onPath = (s1.path.n : Int)
      · have hdb : (s1.onPath == (s1.path.n : Int)) = true := by rw [beq_iff_eq]; exact hd
        have HD : Hid (s1.onPath = (s1.path.n : Int)) := hd
        have d15 : w8.cell? ⟨B2, 15, none⟩ = some (.int .i64 s1.keepDepth) := HM8.out.two.cell 15
        have d16 : w8.cell? ⟨B2, 16, none⟩ = some (.int .i64 s1.keepFrom) := HM8.out.two.cell 16
        have d17 : w8.cell? ⟨B2, 17, none⟩ = some s1.kept.v := HM8.out.two.cell 17
        have d18 : w8.cell? ⟨B2, 18, none⟩ = some (.bool s1.over) := HM8.out.two.cell 18
        have f15 := HM8.out.two.free 15
        have f16 := HM8.out.two.free 16
        have f17 := HM8.out.two.free 17
        have f18 := HM8.out.two.free 18
        clear hd
        go_wp2_with fail
        go_simp
        go_meet
        refine ⟨by unfold entN; rw [beq_iff_eq.2 HD.out]; simp, nilS, ?_, ?_⟩
        · unfold tN; rw [if_pos HNm.out, if_pos HD.out]
          exact HM8.out.write (Nat.le_refl _) ((((((Only.refl B2 w8).setCell 12 (.bool false)).setCell 19 (.bool false)).setCell 15 (.int .i64 s1.closers.n)).setCell 16 (.int .i64 ((i : Nat) : Int))).setCell 17 nilS.v |>.setCell 18 (.bool false))
            ((((((HM8.out.two.fNamed false).fFound false).fKeepDepth _).fKeepFrom _).fKept nilS).fOver false)
        · unfold kN; rw [if_pos ⟨HNm.out, HD.out⟩]; exact World.ownsRow_nil _ _ _ _
      · have hdb : (s1.onPath == (s1.path.n : Int)) = false := by rw [beq_eq_false_iff_ne]; exact hd
        have HD : Hid (¬ s1.onPath = (s1.path.n : Int)) := hd
        clear hd
        go_wp2_with fail
        go_simp
        go_meet
        have hX := HM8.out.fin (Nat.le_refl _) HM8.out.owned.kept0 (((Only.refl B2 w8).setCell 12 (.bool false)).setCell 19 (.bool false)) ((HM8.out.two.fNamed false).fFound false)
        refine ⟨by unfold entN; rw [HNm.out, hdb]; rfl, s1.kept, ?_, ?_⟩
        · unfold tN; rw [if_pos HNm.out, if_neg HD.out]; exact hX.1
        · unfold kN; rw [if_neg (fun h => HD.out h.2)]; exact hX.2
  case rest =>
  obtain ⟨rfl, k, hm, hk⟩ := hcut
  go_step
  exact t29 w _ ap3 zs i s1 C w3.heap.size B2 k hm hk (hm.owned.sound (by rw [← HS1.out]; exact HSd.out.pathL) (by rw [← HS1.out]; exact HSd.out.closersL) (by rw [← HS1.out]; exact HSd.out.nameL) (by rw [← HS1.out]; exact HSd.out.keptL)) (by rw [← HS1.out]; exact HBr.out) hi hzl (by rw [← HS1.out]; exact hcn) (by rw [← HS1.out]; exact HF.out)
end Go.Proofs.Qxb6602575a
