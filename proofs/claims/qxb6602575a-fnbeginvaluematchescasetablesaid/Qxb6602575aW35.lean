import Derived.Test.Qxb6602575aW34
namespace Go.Proofs.Qxb6602575a
open Go.RowKit

theorem put_closers {T : Str} {c : Sl} (h : T.closers = c) : ({ T with closers := c } : Str) = T := by rw [← h]

set_option maxHeartbeats 4000000 in
set_option maxRecDepth 100000 in
theorem t29_full123 (w w9 : World) (ap3 : Option Addr) (zs : List Int) (i : Nat) (s1 : Str) (C : Con) (base B2 : Nat) (k : Sl) {u2 u3 u4 u9 u12 u13 u14 u15 u16 u17 u18 u19 u20 u21 u22 u23 u24 u25 u26 u27 u28 u29 u30 u31 u32 u33 u34 u35 u36 u37 u38 u39 u40 u41 u42 u43 u44 u45 u46 u47 u48 u49 u50 u51 u52 u53 u54 u55 u56 u57 u58 u59 u60 u61 u62 u63 u64 u65 u66 u67 u68 u69 u70 u71 u72 u73 u74 u75 u76 u77 u78 u79 u80 u81 u82 u83 u84 u85 u86 u87 u88 u89 u90 u91 u92 u93 u94 u95 u96 u97 u98 u99 u100 u101 u102 u103 u104 u105 u106 u107 u108 u109 u110 u111 u112 u113 u114 u115 u116 u117 u118 u119 u120 u121 u122 u123 u124 u125 u126 u127 u128 u129 u130 u131 u132 u133 u134 u135 u136 u137 u138 u139 u140 u141 u142 u143 u144 u145 u146 u147 u148 u149 u150 u151 u152 u153 u154 u155 u156 u157 u158 u159 u160 u161 u162 u163 u164 u165 u166 u167 u168 u169 u170 u171 u172 u173 u174 u175 u176 u177 u178 u179 u180 u181 u182 u183 u184 u185 u186 u187 u188 u189 u190 u191 u192 u193 u194 u195 u196 u197 u198 u199 u200 u201 u202 u203 u204 u205 u206 u207 u208 u209 u210 u211 u212 u213 u214 u215 u216 u217 u218 u219 u220 u221 u222 u223 u224 u225 u226 u227 u228 u229 u230 u231 u232 u233 u234 u235 u236 u237 u238 u239 u240 : Value}
    (hms : MS w ap3 zs s1 C base w.heap.size B2 (tN s1 i k) w9) (hk : w9.ownsRow 0 5 1 k.v k.n (bys (kN s1 C.kept))) (hsd : Sound s1) (hbr : s1.broken = false) (hi : i < zs.length) (hzl : zs.length ≤ 1048576) (hcn : s1.closers.n ≤ 10000)
    (hf : numc (Pl.bt zs i) = true → ¬ (s1.named = true ∧ s1.onPath = (s1.path.n : Int)) → s1.keepDepth = (s1.closers.n : Int) → 0 ≤ s1.keepFrom ∧ s1.keepFrom ≤ i)
    (h123 : Pl.bt zs i = 123) (hfull : s1.closers.n = 10000) (hnn : numc (Pl.bt zs i) = false) :
    Code.wp Try.prog ((Try.f8.body.bind (fromRegion 29)).getD .skip) (bodyPost Try.prog Try.f8 fun e w' => e = .returned (.bool true) ∧ Below w.heap.size w w') ⟨#[.slice ap3 zs.length zs.length, .int .i64 ((i : Nat) : Int), u2, u3, u4, .pointer (some ⟨w.heap.size, 0, none⟩), .bool false, .int .u8 (Pl.bt zs i), .bool (numc (Pl.bt zs i)), u9, .pointer (some ⟨B2, 0, none⟩), .bool (entN s1 (Pl.bt zs i)), u12, u13, u14, u15, u16, u17, u18, u19, u20, u21, u22, u23, u24, u25, u26, u27, u28, u29, u30, u31, u32, u33, u34, u35, u36, u37, u38, u39, u40, u41, u42, u43, u44, u45, u46, u47, u48, u49, u50, u51, u52, u53, u54, u55, u56, u57, u58, u59, u60, u61, u62, u63, u64, u65, u66, u67, u68, u69, u70, u71, u72, u73, u74, u75, u76, u77, u78, u79, u80, u81, u82, u83, u84, u85, u86, u87, u88, u89, u90, u91, u92, u93, u94, u95, u96, u97, u98, u99, u100, u101, u102, u103, u104, u105, u106, u107, u108, u109, u110, u111, u112, u113, u114, u115, u116, u117, u118, u119, u120, u121, u122, u123, u124, u125, u126, u127, u128, u129, u130, u131, u132, u133, u134, u135, u136, u137, u138, u139, u140, u141, u142, u143, u144, u145, u146, u147, u148, u149, u150, u151, u152, u153, u154, u155, u156, u157, u158, u159, u160, u161, u162, u163, u164, u165, u166, u167, u168, u169, u170, u171, u172, u173, u174, u175, u176, u177, u178, u179, u180, u181, u182, u183, u184, u185, u186, u187, u188, u189, u190, u191, u192, u193, u194, u195, u196, u197, u198, u199, u200, u201, u202, u203, u204, u205, u206, u207, u208, u209, u210, u211, u212, u213, u214, u215, u216, u217, u218, u219, u220, u221, u222, u223, u224, u225, u226, u227, u228, u229, u230, u231, u232, u233, u234, u235, u236, u237, u238, u239, u240], []⟩ w9 := by
  have hn' : numc (Pl.bt zs i) = true → Scan (phText (phc (Pl.bt zs i)) ++ zs.drop (i + 1)) (phText (phc (Pl.bt zs i))).length (zs.length - (i + 1)) 0 false false 0 := fun h => absurd h (by rw [hnn]; decide)
  have hO : table s1 C zs i 0 false false 0 = ⟨zs.length, true, fun k cl => { tN s1 i k with closers := cl }, kN s1 C.kept, C.closers⟩ := by
    unfold table; rw [if_pos (Or.inl h123), if_pos hfull]
  conv => arg 2; whnf
  obtain ⟨O, hOO⟩ : ∃ O, O = table s1 C zs i 0 false false 0 := ⟨_, rfl⟩
  have HO : Hid (O = _) := hOO.trans hO
  have HO0 : Hid (O = table s1 C zs i 0 false false 0) := hOO
  clear hO hOO
  have HM9 : Hid (MS w ap3 zs s1 C base w.heap.size B2 (tN s1 i k) w9) := hms
  have HK9 : Hid (w9.ownsRow 0 5 1 k.v k.n (bys (kN s1 C.kept))) := hk
  have HC9 : Hid (w9.ownsRow 0 5 1 s1.closers.v s1.closers.n (bys C.closers)) := own_base hms.owned.closers (Nat.zero_le _)
  have HSd : Hid (Sound s1) := hsd
  have HBr : Hid (s1.broken = false) := hbr
  have HF : Hid (numc (Pl.bt zs i) = true → ¬ (s1.named = true ∧ s1.onPath = (s1.path.n : Int)) → s1.keepDepth = (s1.closers.n : Int) → 0 ≤ s1.keepFrom ∧ s1.keepFrom ≤ i) := hf
  have HN : Hid (numc (Pl.bt zs i) = true → Scan (phText (phc (Pl.bt zs i)) ++ zs.drop (i + 1)) (phText (phc (Pl.bt zs i))).length (zs.length - (i + 1)) 0 false false 0) := hn'
  clear hms hk hsd hbr hf hn'
  have d2 : w9.cell? ⟨w.heap.size, 2, none⟩ = some s1.closers.v := HM9.out.one.cell 2
  have hlt2 := HM9.out.ne
  have hne : w.heap.size ≠ B2 := by omega
  have hge : (10000 : Int) ≤ (s1.closers.n : Int) := by omega
  rw [h123]
  clear h123 hfull hnn
  go_upto_if 126 with fail
  go_cut [12, 13] (fun t u wx => t = .int .i64 O.ret ∧ u = .bool O.bad ∧ ∃ k cl : Sl, MS w ap3 zs s1 C base w.heap.size B2 (O.S k cl) wx ∧ wx.ownsRow 0 5 1 k.v k.n (bys O.kc) ∧ wx.ownsRow 0 5 1 cl.v cl.n (bys O.cc))
  case rest =>
    obtain ⟨rfl, rfl, k2, cl, h1, h2, h3⟩ := hcut
    rw [HO0.out] at h1 h2 h3
    go_step
    exact t76 w _ ap3 zs i s1 C base B2 0 false false 0 _ _ k2 cl (by rw [HO0.out]) (by rw [HO0.out]) h1 h2 h3 HSd.out HBr.out hi hzl hcn HF.out HN.out
  case first =>
    go_wp2_with fail
    go_meet
    refine ⟨by rw [HO.out], by rw [HO.out], k, s1.closers, ?_, ?_, ?_⟩
    · rw [HO.out]; show MS w ap3 zs s1 C base w.heap.size B2 { tN s1 i k with closers := s1.closers } _; rw [put_closers (tN_closers _ _ _)]; exact HM9.out
    · rw [HO.out]; exact HK9.out
    · rw [HO.out]; exact HC9.out

set_option maxHeartbeats 4000000 in
set_option maxRecDepth 100000 in
theorem t29_full91 (w w9 : World) (ap3 : Option Addr) (zs : List Int) (i : Nat) (s1 : Str) (C : Con) (base B2 : Nat) (k : Sl) {u2 u3 u4 u9 u12 u13 u14 u15 u16 u17 u18 u19 u20 u21 u22 u23 u24 u25 u26 u27 u28 u29 u30 u31 u32 u33 u34 u35 u36 u37 u38 u39 u40 u41 u42 u43 u44 u45 u46 u47 u48 u49 u50 u51 u52 u53 u54 u55 u56 u57 u58 u59 u60 u61 u62 u63 u64 u65 u66 u67 u68 u69 u70 u71 u72 u73 u74 u75 u76 u77 u78 u79 u80 u81 u82 u83 u84 u85 u86 u87 u88 u89 u90 u91 u92 u93 u94 u95 u96 u97 u98 u99 u100 u101 u102 u103 u104 u105 u106 u107 u108 u109 u110 u111 u112 u113 u114 u115 u116 u117 u118 u119 u120 u121 u122 u123 u124 u125 u126 u127 u128 u129 u130 u131 u132 u133 u134 u135 u136 u137 u138 u139 u140 u141 u142 u143 u144 u145 u146 u147 u148 u149 u150 u151 u152 u153 u154 u155 u156 u157 u158 u159 u160 u161 u162 u163 u164 u165 u166 u167 u168 u169 u170 u171 u172 u173 u174 u175 u176 u177 u178 u179 u180 u181 u182 u183 u184 u185 u186 u187 u188 u189 u190 u191 u192 u193 u194 u195 u196 u197 u198 u199 u200 u201 u202 u203 u204 u205 u206 u207 u208 u209 u210 u211 u212 u213 u214 u215 u216 u217 u218 u219 u220 u221 u222 u223 u224 u225 u226 u227 u228 u229 u230 u231 u232 u233 u234 u235 u236 u237 u238 u239 u240 : Value}
    (hms : MS w ap3 zs s1 C base w.heap.size B2 (tN s1 i k) w9) (hk : w9.ownsRow 0 5 1 k.v k.n (bys (kN s1 C.kept))) (hsd : Sound s1) (hbr : s1.broken = false) (hi : i < zs.length) (hzl : zs.length ≤ 1048576) (hcn : s1.closers.n ≤ 10000)
    (hf : numc (Pl.bt zs i) = true → ¬ (s1.named = true ∧ s1.onPath = (s1.path.n : Int)) → s1.keepDepth = (s1.closers.n : Int) → 0 ≤ s1.keepFrom ∧ s1.keepFrom ≤ i)
    (h91 : Pl.bt zs i = 91) (hfull : s1.closers.n = 10000) (hnn : numc (Pl.bt zs i) = false) :
    Code.wp Try.prog ((Try.f8.body.bind (fromRegion 29)).getD .skip) (bodyPost Try.prog Try.f8 fun e w' => e = .returned (.bool true) ∧ Below w.heap.size w w') ⟨#[.slice ap3 zs.length zs.length, .int .i64 ((i : Nat) : Int), u2, u3, u4, .pointer (some ⟨w.heap.size, 0, none⟩), .bool false, .int .u8 (Pl.bt zs i), .bool (numc (Pl.bt zs i)), u9, .pointer (some ⟨B2, 0, none⟩), .bool (entN s1 (Pl.bt zs i)), u12, u13, u14, u15, u16, u17, u18, u19, u20, u21, u22, u23, u24, u25, u26, u27, u28, u29, u30, u31, u32, u33, u34, u35, u36, u37, u38, u39, u40, u41, u42, u43, u44, u45, u46, u47, u48, u49, u50, u51, u52, u53, u54, u55, u56, u57, u58, u59, u60, u61, u62, u63, u64, u65, u66, u67, u68, u69, u70, u71, u72, u73, u74, u75, u76, u77, u78, u79, u80, u81, u82, u83, u84, u85, u86, u87, u88, u89, u90, u91, u92, u93, u94, u95, u96, u97, u98, u99, u100, u101, u102, u103, u104, u105, u106, u107, u108, u109, u110, u111, u112, u113, u114, u115, u116, u117, u118, u119, u120, u121, u122, u123, u124, u125, u126, u127, u128, u129, u130, u131, u132, u133, u134, u135, u136, u137, u138, u139, u140, u141, u142, u143, u144, u145, u146, u147, u148, u149, u150, u151, u152, u153, u154, u155, u156, u157, u158, u159, u160, u161, u162, u163, u164, u165, u166, u167, u168, u169, u170, u171, u172, u173, u174, u175, u176, u177, u178, u179, u180, u181, u182, u183, u184, u185, u186, u187, u188, u189, u190, u191, u192, u193, u194, u195, u196, u197, u198, u199, u200, u201, u202, u203, u204, u205, u206, u207, u208, u209, u210, u211, u212, u213, u214, u215, u216, u217, u218, u219, u220, u221, u222, u223, u224, u225, u226, u227, u228, u229, u230, u231, u232, u233, u234, u235, u236, u237, u238, u239, u240], []⟩ w9 := by
  have hn' : numc (Pl.bt zs i) = true → Scan (phText (phc (Pl.bt zs i)) ++ zs.drop (i + 1)) (phText (phc (Pl.bt zs i))).length (zs.length - (i + 1)) 0 false false 0 := fun h => absurd h (by rw [hnn]; decide)
  have hO : table s1 C zs i 0 false false 0 = ⟨zs.length, true, fun k cl => { tN s1 i k with closers := cl }, kN s1 C.kept, C.closers⟩ := by
    unfold table; rw [if_pos (Or.inr h91), if_pos hfull]
  conv => arg 2; whnf
  obtain ⟨O, hOO⟩ : ∃ O, O = table s1 C zs i 0 false false 0 := ⟨_, rfl⟩
  have HO : Hid (O = _) := hOO.trans hO
  have HO0 : Hid (O = table s1 C zs i 0 false false 0) := hOO
  clear hO hOO
  have HM9 : Hid (MS w ap3 zs s1 C base w.heap.size B2 (tN s1 i k) w9) := hms
  have HK9 : Hid (w9.ownsRow 0 5 1 k.v k.n (bys (kN s1 C.kept))) := hk
  have HC9 : Hid (w9.ownsRow 0 5 1 s1.closers.v s1.closers.n (bys C.closers)) := own_base hms.owned.closers (Nat.zero_le _)
  have HSd : Hid (Sound s1) := hsd
  have HBr : Hid (s1.broken = false) := hbr
  have HF : Hid (numc (Pl.bt zs i) = true → ¬ (s1.named = true ∧ s1.onPath = (s1.path.n : Int)) → s1.keepDepth = (s1.closers.n : Int) → 0 ≤ s1.keepFrom ∧ s1.keepFrom ≤ i) := hf
  have HN : Hid (numc (Pl.bt zs i) = true → Scan (phText (phc (Pl.bt zs i)) ++ zs.drop (i + 1)) (phText (phc (Pl.bt zs i))).length (zs.length - (i + 1)) 0 false false 0) := hn'
  clear hms hk hsd hbr hf hn'
  have d2 : w9.cell? ⟨w.heap.size, 2, none⟩ = some s1.closers.v := HM9.out.one.cell 2
  have hlt2 := HM9.out.ne
  have hne : w.heap.size ≠ B2 := by omega
  have hge : (10000 : Int) ≤ (s1.closers.n : Int) := by omega
  rw [h91]
  clear h91 hfull hnn
  go_upto_if 126 with fail
  go_cut [12, 13] (fun t u wx => t = .int .i64 O.ret ∧ u = .bool O.bad ∧ ∃ k cl : Sl, MS w ap3 zs s1 C base w.heap.size B2 (O.S k cl) wx ∧ wx.ownsRow 0 5 1 k.v k.n (bys O.kc) ∧ wx.ownsRow 0 5 1 cl.v cl.n (bys O.cc))
  case rest =>
    obtain ⟨rfl, rfl, k2, cl, h1, h2, h3⟩ := hcut
    rw [HO0.out] at h1 h2 h3
    go_step
    exact t76 w _ ap3 zs i s1 C base B2 0 false false 0 _ _ k2 cl (by rw [HO0.out]) (by rw [HO0.out]) h1 h2 h3 HSd.out HBr.out hi hzl hcn HF.out HN.out
  case first =>
    go_wp2_with fail
    go_meet
    refine ⟨by rw [HO.out], by rw [HO.out], k, s1.closers, ?_, ?_, ?_⟩
    · rw [HO.out]; show MS w ap3 zs s1 C base w.heap.size B2 { tN s1 i k with closers := s1.closers } _; rw [put_closers (tN_closers _ _ _)]; exact HM9.out
    · rw [HO.out]; exact HK9.out
    · rw [HO.out]; exact HC9.out

set_option maxHeartbeats 4000000 in
set_option maxRecDepth 100000 in
theorem t29_bad (w w9 : World) (ap3 : Option Addr) (zs : List Int) (i : Nat) (s1 : Str) (C : Con) (base B2 : Nat) (k : Sl) {u2 u3 u4 u9 u12 u13 u14 u15 u16 u17 u18 u19 u20 u21 u22 u23 u24 u25 u26 u27 u28 u29 u30 u31 u32 u33 u34 u35 u36 u37 u38 u39 u40 u41 u42 u43 u44 u45 u46 u47 u48 u49 u50 u51 u52 u53 u54 u55 u56 u57 u58 u59 u60 u61 u62 u63 u64 u65 u66 u67 u68 u69 u70 u71 u72 u73 u74 u75 u76 u77 u78 u79 u80 u81 u82 u83 u84 u85 u86 u87 u88 u89 u90 u91 u92 u93 u94 u95 u96 u97 u98 u99 u100 u101 u102 u103 u104 u105 u106 u107 u108 u109 u110 u111 u112 u113 u114 u115 u116 u117 u118 u119 u120 u121 u122 u123 u124 u125 u126 u127 u128 u129 u130 u131 u132 u133 u134 u135 u136 u137 u138 u139 u140 u141 u142 u143 u144 u145 u146 u147 u148 u149 u150 u151 u152 u153 u154 u155 u156 u157 u158 u159 u160 u161 u162 u163 u164 u165 u166 u167 u168 u169 u170 u171 u172 u173 u174 u175 u176 u177 u178 u179 u180 u181 u182 u183 u184 u185 u186 u187 u188 u189 u190 u191 u192 u193 u194 u195 u196 u197 u198 u199 u200 u201 u202 u203 u204 u205 u206 u207 u208 u209 u210 u211 u212 u213 u214 u215 u216 u217 u218 u219 u220 u221 u222 u223 u224 u225 u226 u227 u228 u229 u230 u231 u232 u233 u234 u235 u236 u237 u238 u239 u240 : Value}
    (hms : MS w ap3 zs s1 C base w.heap.size B2 (tN s1 i k) w9) (hk : w9.ownsRow 0 5 1 k.v k.n (bys (kN s1 C.kept))) (hsd : Sound s1) (hbr : s1.broken = false) (hi : i < zs.length) (hzl : zs.length ≤ 1048576) (hcn : s1.closers.n ≤ 10000)
    (hf : numc (Pl.bt zs i) = true → ¬ (s1.named = true ∧ s1.onPath = (s1.path.n : Int)) → s1.keepDepth = (s1.closers.n : Int) → 0 ≤ s1.keepFrom ∧ s1.keepFrom ≤ i)
    (h123 : ¬ Pl.bt zs i = 123) (h91 : ¬ Pl.bt zs i = 91) (h34 : ¬ Pl.bt zs i = 34) (h116 : ¬ Pl.bt zs i = 116) (h102 : ¬ Pl.bt zs i = 102) (h110 : ¬ Pl.bt zs i = 110) (hnn : numc (Pl.bt zs i) = false) :
    Code.wp Try.prog ((Try.f8.body.bind (fromRegion 29)).getD .skip) (bodyPost Try.prog Try.f8 fun e w' => e = .returned (.bool true) ∧ Below w.heap.size w w') ⟨#[.slice ap3 zs.length zs.length, .int .i64 ((i : Nat) : Int), u2, u3, u4, .pointer (some ⟨w.heap.size, 0, none⟩), .bool false, .int .u8 (Pl.bt zs i), .bool (numc (Pl.bt zs i)), u9, .pointer (some ⟨B2, 0, none⟩), .bool (entN s1 (Pl.bt zs i)), u12, u13, u14, u15, u16, u17, u18, u19, u20, u21, u22, u23, u24, u25, u26, u27, u28, u29, u30, u31, u32, u33, u34, u35, u36, u37, u38, u39, u40, u41, u42, u43, u44, u45, u46, u47, u48, u49, u50, u51, u52, u53, u54, u55, u56, u57, u58, u59, u60, u61, u62, u63, u64, u65, u66, u67, u68, u69, u70, u71, u72, u73, u74, u75, u76, u77, u78, u79, u80, u81, u82, u83, u84, u85, u86, u87, u88, u89, u90, u91, u92, u93, u94, u95, u96, u97, u98, u99, u100, u101, u102, u103, u104, u105, u106, u107, u108, u109, u110, u111, u112, u113, u114, u115, u116, u117, u118, u119, u120, u121, u122, u123, u124, u125, u126, u127, u128, u129, u130, u131, u132, u133, u134, u135, u136, u137, u138, u139, u140, u141, u142, u143, u144, u145, u146, u147, u148, u149, u150, u151, u152, u153, u154, u155, u156, u157, u158, u159, u160, u161, u162, u163, u164, u165, u166, u167, u168, u169, u170, u171, u172, u173, u174, u175, u176, u177, u178, u179, u180, u181, u182, u183, u184, u185, u186, u187, u188, u189, u190, u191, u192, u193, u194, u195, u196, u197, u198, u199, u200, u201, u202, u203, u204, u205, u206, u207, u208, u209, u210, u211, u212, u213, u214, u215, u216, u217, u218, u219, u220, u221, u222, u223, u224, u225, u226, u227, u228, u229, u230, u231, u232, u233, u234, u235, u236, u237, u238, u239, u240], []⟩ w9 := by
  have hn' : numc (Pl.bt zs i) = true → Scan (phText (phc (Pl.bt zs i)) ++ zs.drop (i + 1)) (phText (phc (Pl.bt zs i))).length (zs.length - (i + 1)) 0 false false 0 := fun h => absurd h (by rw [hnn]; decide)
  have hO : table s1 C zs i 0 false false 0 = ⟨zs.length, true, fun k cl => { tN s1 i k with closers := cl }, kN s1 C.kept, C.closers⟩ := by
    unfold table; rw [if_neg (by omega), if_neg (by omega), if_neg (by omega), if_neg (by omega), if_neg (by omega), if_neg (by rw [hnn]; decide)]
  conv => arg 2; whnf
  obtain ⟨O, hOO⟩ : ∃ O, O = table s1 C zs i 0 false false 0 := ⟨_, rfl⟩
  have HO : Hid (O = _) := hOO.trans hO
  have HO0 : Hid (O = table s1 C zs i 0 false false 0) := hOO
  clear hO hOO
  have HM9 : Hid (MS w ap3 zs s1 C base w.heap.size B2 (tN s1 i k) w9) := hms
  have HK9 : Hid (w9.ownsRow 0 5 1 k.v k.n (bys (kN s1 C.kept))) := hk
  have HC9 : Hid (w9.ownsRow 0 5 1 s1.closers.v s1.closers.n (bys C.closers)) := own_base hms.owned.closers (Nat.zero_le _)
  have HSd : Hid (Sound s1) := hsd
  have HBr : Hid (s1.broken = false) := hbr
  have HF : Hid (numc (Pl.bt zs i) = true → ¬ (s1.named = true ∧ s1.onPath = (s1.path.n : Int)) → s1.keepDepth = (s1.closers.n : Int) → 0 ≤ s1.keepFrom ∧ s1.keepFrom ≤ i) := hf
  have HN : Hid (numc (Pl.bt zs i) = true → Scan (phText (phc (Pl.bt zs i)) ++ zs.drop (i + 1)) (phText (phc (Pl.bt zs i))).length (zs.length - (i + 1)) 0 false false 0) := hn'
  clear hms hk hsd hbr hf hn'
  have d2 : w9.cell? ⟨w.heap.size, 2, none⟩ = some s1.closers.v := HM9.out.one.cell 2
  have hlt2 := HM9.out.ne
  have hne : w.heap.size ≠ B2 := by omega
  have n1 : (Pl.bt zs i == 123) = false := by rw [beq_eq_false_iff_ne]; exact h123
  have n2 : (Pl.bt zs i == 91) = false := by rw [beq_eq_false_iff_ne]; exact h91
  have n3 : (Pl.bt zs i == 34) = false := by rw [beq_eq_false_iff_ne]; exact h34
  have n4 : (Pl.bt zs i == 116) = false := by rw [beq_eq_false_iff_ne]; exact h116
  have n5 : (Pl.bt zs i == 102) = false := by rw [beq_eq_false_iff_ne]; exact h102
  have n6 : (Pl.bt zs i == 110) = false := by rw [beq_eq_false_iff_ne]; exact h110
  rw [hnn]
  clear h123 h91 h34 h116 h102 h110 hnn
  go_upto_if 126 with fail
  go_cut [12, 13] (fun t u wx => t = .int .i64 O.ret ∧ u = .bool O.bad ∧ ∃ k cl : Sl, MS w ap3 zs s1 C base w.heap.size B2 (O.S k cl) wx ∧ wx.ownsRow 0 5 1 k.v k.n (bys O.kc) ∧ wx.ownsRow 0 5 1 cl.v cl.n (bys O.cc))
  case rest =>
    obtain ⟨rfl, rfl, k2, cl, h1, h2, h3⟩ := hcut
    rw [HO0.out] at h1 h2 h3
    go_step
    exact t76 w _ ap3 zs i s1 C base B2 0 false false 0 _ _ k2 cl (by rw [HO0.out]) (by rw [HO0.out]) h1 h2 h3 HSd.out HBr.out hi hzl hcn HF.out HN.out
  case first =>
    go_wp2_with fail
    go_meet
    refine ⟨by rw [HO.out], by rw [HO.out], k, s1.closers, ?_, ?_, ?_⟩
    · rw [HO.out]; show MS w ap3 zs s1 C base w.heap.size B2 { tN s1 i k with closers := s1.closers } _; rw [put_closers (tN_closers _ _ _)]; exact HM9.out
    · rw [HO.out]; exact HK9.out
    · rw [HO.out]; exact HC9.out

set_option maxHeartbeats 4000000 in
set_option maxRecDepth 100000 in
theorem t29_c34 (w w9 : World) (ap3 : Option Addr) (zs : List Int) (i : Nat) (s1 : Str) (C : Con) (base B2 : Nat) (k : Sl) {u2 u3 u4 u9 u12 u13 u14 u15 u16 u17 u18 u19 u20 u21 u22 u23 u24 u25 u26 u27 u28 u29 u30 u31 u32 u33 u34 u35 u36 u37 u38 u39 u40 u41 u42 u43 u44 u45 u46 u47 u48 u49 u50 u51 u52 u53 u54 u55 u56 u57 u58 u59 u60 u61 u62 u63 u64 u65 u66 u67 u68 u69 u70 u71 u72 u73 u74 u75 u76 u77 u78 u79 u80 u81 u82 u83 u84 u85 u86 u87 u88 u89 u90 u91 u92 u93 u94 u95 u96 u97 u98 u99 u100 u101 u102 u103 u104 u105 u106 u107 u108 u109 u110 u111 u112 u113 u114 u115 u116 u117 u118 u119 u120 u121 u122 u123 u124 u125 u126 u127 u128 u129 u130 u131 u132 u133 u134 u135 u136 u137 u138 u139 u140 u141 u142 u143 u144 u145 u146 u147 u148 u149 u150 u151 u152 u153 u154 u155 u156 u157 u158 u159 u160 u161 u162 u163 u164 u165 u166 u167 u168 u169 u170 u171 u172 u173 u174 u175 u176 u177 u178 u179 u180 u181 u182 u183 u184 u185 u186 u187 u188 u189 u190 u191 u192 u193 u194 u195 u196 u197 u198 u199 u200 u201 u202 u203 u204 u205 u206 u207 u208 u209 u210 u211 u212 u213 u214 u215 u216 u217 u218 u219 u220 u221 u222 u223 u224 u225 u226 u227 u228 u229 u230 u231 u232 u233 u234 u235 u236 u237 u238 u239 u240 : Value}
    (hms : MS w ap3 zs s1 C base w.heap.size B2 (tN s1 i k) w9) (hk : w9.ownsRow 0 5 1 k.v k.n (bys (kN s1 C.kept))) (hsd : Sound s1) (hbr : s1.broken = false) (hi : i < zs.length) (hzl : zs.length ≤ 1048576) (hcn : s1.closers.n ≤ 10000)
    (hf : numc (Pl.bt zs i) = true → ¬ (s1.named = true ∧ s1.onPath = (s1.path.n : Int)) → s1.keepDepth = (s1.closers.n : Int) → 0 ≤ s1.keepFrom ∧ s1.keepFrom ≤ i)
    (h34 : Pl.bt zs i = 34) (hnn : numc (Pl.bt zs i) = false) :
    Code.wp Try.prog ((Try.f8.body.bind (fromRegion 29)).getD .skip) (bodyPost Try.prog Try.f8 fun e w' => e = .returned (.bool true) ∧ Below w.heap.size w w') ⟨#[.slice ap3 zs.length zs.length, .int .i64 ((i : Nat) : Int), u2, u3, u4, .pointer (some ⟨w.heap.size, 0, none⟩), .bool false, .int .u8 (Pl.bt zs i), .bool (numc (Pl.bt zs i)), u9, .pointer (some ⟨B2, 0, none⟩), .bool (entN s1 (Pl.bt zs i)), u12, u13, u14, u15, u16, u17, u18, u19, u20, u21, u22, u23, u24, u25, u26, u27, u28, u29, u30, u31, u32, u33, u34, u35, u36, u37, u38, u39, u40, u41, u42, u43, u44, u45, u46, u47, u48, u49, u50, u51, u52, u53, u54, u55, u56, u57, u58, u59, u60, u61, u62, u63, u64, u65, u66, u67, u68, u69, u70, u71, u72, u73, u74, u75, u76, u77, u78, u79, u80, u81, u82, u83, u84, u85, u86, u87, u88, u89, u90, u91, u92, u93, u94, u95, u96, u97, u98, u99, u100, u101, u102, u103, u104, u105, u106, u107, u108, u109, u110, u111, u112, u113, u114, u115, u116, u117, u118, u119, u120, u121, u122, u123, u124, u125, u126, u127, u128, u129, u130, u131, u132, u133, u134, u135, u136, u137, u138, u139, u140, u141, u142, u143, u144, u145, u146, u147, u148, u149, u150, u151, u152, u153, u154, u155, u156, u157, u158, u159, u160, u161, u162, u163, u164, u165, u166, u167, u168, u169, u170, u171, u172, u173, u174, u175, u176, u177, u178, u179, u180, u181, u182, u183, u184, u185, u186, u187, u188, u189, u190, u191, u192, u193, u194, u195, u196, u197, u198, u199, u200, u201, u202, u203, u204, u205, u206, u207, u208, u209, u210, u211, u212, u213, u214, u215, u216, u217, u218, u219, u220, u221, u222, u223, u224, u225, u226, u227, u228, u229, u230, u231, u232, u233, u234, u235, u236, u237, u238, u239, u240], []⟩ w9 := by
  have hn' : numc (Pl.bt zs i) = true → Scan (phText (phc (Pl.bt zs i)) ++ zs.drop (i + 1)) (phText (phc (Pl.bt zs i))).length (zs.length - (i + 1)) 0 false false 0 := fun h => absurd h (by rw [hnn]; decide)
  have hO : table s1 C zs i 0 false false 0 = ⟨((i + 1 : Nat) : Int), false, fun k cl => { tN s1 i k with closers := cl, isName := false, naming := false, state := 8 }, kN s1 C.kept, C.closers⟩ := by
    unfold table; rw [if_neg (by omega), if_pos h34]
  conv => arg 2; whnf
  obtain ⟨O, hOO⟩ : ∃ O, O = table s1 C zs i 0 false false 0 := ⟨_, rfl⟩
  have HO : Hid (O = _) := hOO.trans hO
  have HO0 : Hid (O = table s1 C zs i 0 false false 0) := hOO
  clear hO hOO
  have HM9 : Hid (MS w ap3 zs s1 C base w.heap.size B2 (tN s1 i k) w9) := hms
  have HK9 : Hid (w9.ownsRow 0 5 1 k.v k.n (bys (kN s1 C.kept))) := hk
  have HC9 : Hid (w9.ownsRow 0 5 1 s1.closers.v s1.closers.n (bys C.closers)) := own_base hms.owned.closers (Nat.zero_le _)
  have HSd : Hid (Sound s1) := hsd
  have HBr : Hid (s1.broken = false) := hbr
  have HF : Hid (numc (Pl.bt zs i) = true → ¬ (s1.named = true ∧ s1.onPath = (s1.path.n : Int)) → s1.keepDepth = (s1.closers.n : Int) → 0 ≤ s1.keepFrom ∧ s1.keepFrom ≤ i) := hf
  have HN : Hid (numc (Pl.bt zs i) = true → Scan (phText (phc (Pl.bt zs i)) ++ zs.drop (i + 1)) (phText (phc (Pl.bt zs i))).length (zs.length - (i + 1)) 0 false false 0) := hn'
  clear hms hk hsd hbr hf hn'
  have d2 : w9.cell? ⟨w.heap.size, 2, none⟩ = some s1.closers.v := HM9.out.one.cell 2
  have hlt2 := HM9.out.ne
  have hne : w.heap.size ≠ B2 := by omega
  rw [h34]
  clear h34 hnn
  go_upto_if 126 with fail
  go_cut [12, 13] (fun t u wx => t = .int .i64 O.ret ∧ u = .bool O.bad ∧ ∃ k cl : Sl, MS w ap3 zs s1 C base w.heap.size B2 (O.S k cl) wx ∧ wx.ownsRow 0 5 1 k.v k.n (bys O.kc) ∧ wx.ownsRow 0 5 1 cl.v cl.n (bys O.cc))
  case rest =>
    obtain ⟨rfl, rfl, k2, cl, h1, h2, h3⟩ := hcut
    rw [HO0.out] at h1 h2 h3
    go_step
    exact t76 w _ ap3 zs i s1 C base B2 0 false false 0 _ _ k2 cl (by rw [HO0.out]) (by rw [HO0.out]) h1 h2 h3 HSd.out HBr.out hi hzl hcn HF.out HN.out
  case first =>
    have x9 : w9.cell? ⟨B2, 9, none⟩ = some (.bool (tN s1 i k).isName) := HM9.out.two.cell 9
    have y9 := HM9.out.two.free 9
    have x10 : w9.cell? ⟨B2, 10, none⟩ = some (.bool (tN s1 i k).naming) := HM9.out.two.cell 10
    have y10 := HM9.out.two.free 10
    have x4 : w9.cell? ⟨B2, 4, none⟩ = some (.int .u8 (tN s1 i k).state) := HM9.out.two.cell 4
    have y4 := HM9.out.two.free 4
    go_wp2_with fail
    go_meet
    refine ⟨by rw [HO.out]; rfl, by rw [HO.out], k, s1.closers, ?_⟩
    rw [HO.out]
    have hO := (((Only.refl B2 w9).setCell 9 (.bool false)).setCell 10 (.bool false)).setCell 4 (.int .u8 8)
    obtain ⟨m1, m2⟩ := HM9.out.fin (Nat.le_refl _) HK9.out hO (((HM9.out.two.fIsName false).fNaming false).fState 8)
    refine ⟨?_, m2, own_onlyB HC9.out HM9.out.two (by decide) hO⟩
    show MS w ap3 zs s1 C base w.heap.size B2 { tN s1 i k with closers := s1.closers, isName := false, naming := false, state := 8 } _
    rw [← tN_closers s1 (i : Int) k]
    exact m1

set_option maxHeartbeats 4000000 in
set_option maxRecDepth 100000 in
theorem t29_c116 (w w9 : World) (ap3 : Option Addr) (zs : List Int) (i : Nat) (s1 : Str) (C : Con) (base B2 : Nat) (k : Sl) {u2 u3 u4 u9 u12 u13 u14 u15 u16 u17 u18 u19 u20 u21 u22 u23 u24 u25 u26 u27 u28 u29 u30 u31 u32 u33 u34 u35 u36 u37 u38 u39 u40 u41 u42 u43 u44 u45 u46 u47 u48 u49 u50 u51 u52 u53 u54 u55 u56 u57 u58 u59 u60 u61 u62 u63 u64 u65 u66 u67 u68 u69 u70 u71 u72 u73 u74 u75 u76 u77 u78 u79 u80 u81 u82 u83 u84 u85 u86 u87 u88 u89 u90 u91 u92 u93 u94 u95 u96 u97 u98 u99 u100 u101 u102 u103 u104 u105 u106 u107 u108 u109 u110 u111 u112 u113 u114 u115 u116 u117 u118 u119 u120 u121 u122 u123 u124 u125 u126 u127 u128 u129 u130 u131 u132 u133 u134 u135 u136 u137 u138 u139 u140 u141 u142 u143 u144 u145 u146 u147 u148 u149 u150 u151 u152 u153 u154 u155 u156 u157 u158 u159 u160 u161 u162 u163 u164 u165 u166 u167 u168 u169 u170 u171 u172 u173 u174 u175 u176 u177 u178 u179 u180 u181 u182 u183 u184 u185 u186 u187 u188 u189 u190 u191 u192 u193 u194 u195 u196 u197 u198 u199 u200 u201 u202 u203 u204 u205 u206 u207 u208 u209 u210 u211 u212 u213 u214 u215 u216 u217 u218 u219 u220 u221 u222 u223 u224 u225 u226 u227 u228 u229 u230 u231 u232 u233 u234 u235 u236 u237 u238 u239 u240 : Value}
    (hms : MS w ap3 zs s1 C base w.heap.size B2 (tN s1 i k) w9) (hk : w9.ownsRow 0 5 1 k.v k.n (bys (kN s1 C.kept))) (hsd : Sound s1) (hbr : s1.broken = false) (hi : i < zs.length) (hzl : zs.length ≤ 1048576) (hcn : s1.closers.n ≤ 10000)
    (hf : numc (Pl.bt zs i) = true → ¬ (s1.named = true ∧ s1.onPath = (s1.path.n : Int)) → s1.keepDepth = (s1.closers.n : Int) → 0 ≤ s1.keepFrom ∧ s1.keepFrom ≤ i)
    (h116 : Pl.bt zs i = 116) (hnn : numc (Pl.bt zs i) = false) :
    Code.wp Try.prog ((Try.f8.body.bind (fromRegion 29)).getD .skip) (bodyPost Try.prog Try.f8 fun e w' => e = .returned (.bool true) ∧ Below w.heap.size w w') ⟨#[.slice ap3 zs.length zs.length, .int .i64 ((i : Nat) : Int), u2, u3, u4, .pointer (some ⟨w.heap.size, 0, none⟩), .bool false, .int .u8 (Pl.bt zs i), .bool (numc (Pl.bt zs i)), u9, .pointer (some ⟨B2, 0, none⟩), .bool (entN s1 (Pl.bt zs i)), u12, u13, u14, u15, u16, u17, u18, u19, u20, u21, u22, u23, u24, u25, u26, u27, u28, u29, u30, u31, u32, u33, u34, u35, u36, u37, u38, u39, u40, u41, u42, u43, u44, u45, u46, u47, u48, u49, u50, u51, u52, u53, u54, u55, u56, u57, u58, u59, u60, u61, u62, u63, u64, u65, u66, u67, u68, u69, u70, u71, u72, u73, u74, u75, u76, u77, u78, u79, u80, u81, u82, u83, u84, u85, u86, u87, u88, u89, u90, u91, u92, u93, u94, u95, u96, u97, u98, u99, u100, u101, u102, u103, u104, u105, u106, u107, u108, u109, u110, u111, u112, u113, u114, u115, u116, u117, u118, u119, u120, u121, u122, u123, u124, u125, u126, u127, u128, u129, u130, u131, u132, u133, u134, u135, u136, u137, u138, u139, u140, u141, u142, u143, u144, u145, u146, u147, u148, u149, u150, u151, u152, u153, u154, u155, u156, u157, u158, u159, u160, u161, u162, u163, u164, u165, u166, u167, u168, u169, u170, u171, u172, u173, u174, u175, u176, u177, u178, u179, u180, u181, u182, u183, u184, u185, u186, u187, u188, u189, u190, u191, u192, u193, u194, u195, u196, u197, u198, u199, u200, u201, u202, u203, u204, u205, u206, u207, u208, u209, u210, u211, u212, u213, u214, u215, u216, u217, u218, u219, u220, u221, u222, u223, u224, u225, u226, u227, u228, u229, u230, u231, u232, u233, u234, u235, u236, u237, u238, u239, u240], []⟩ w9 := by
  have hn' : numc (Pl.bt zs i) = true → Scan (phText (phc (Pl.bt zs i)) ++ zs.drop (i + 1)) (phText (phc (Pl.bt zs i))).length (zs.length - (i + 1)) 0 false false 0 := fun h => absurd h (by rw [hnn]; decide)
  have hO : table s1 C zs i 0 false false 0 = ⟨((i + 1 : Nat) : Int), false, fun k cl => { tN s1 i k with closers := cl, word := ⟨#[114, 117, 101]⟩, state := 10 }, kN s1 C.kept, C.closers⟩ := by
    unfold table; rw [if_neg (by omega), if_neg (by omega), if_pos h116]
  conv => arg 2; whnf
  obtain ⟨O, hOO⟩ : ∃ O, O = table s1 C zs i 0 false false 0 := ⟨_, rfl⟩
  have HO : Hid (O = _) := hOO.trans hO
  have HO0 : Hid (O = table s1 C zs i 0 false false 0) := hOO
  clear hO hOO
  have HM9 : Hid (MS w ap3 zs s1 C base w.heap.size B2 (tN s1 i k) w9) := hms
  have HK9 : Hid (w9.ownsRow 0 5 1 k.v k.n (bys (kN s1 C.kept))) := hk
  have HC9 : Hid (w9.ownsRow 0 5 1 s1.closers.v s1.closers.n (bys C.closers)) := own_base hms.owned.closers (Nat.zero_le _)
  have HSd : Hid (Sound s1) := hsd
  have HBr : Hid (s1.broken = false) := hbr
  have HF : Hid (numc (Pl.bt zs i) = true → ¬ (s1.named = true ∧ s1.onPath = (s1.path.n : Int)) → s1.keepDepth = (s1.closers.n : Int) → 0 ≤ s1.keepFrom ∧ s1.keepFrom ≤ i) := hf
  have HN : Hid (numc (Pl.bt zs i) = true → Scan (phText (phc (Pl.bt zs i)) ++ zs.drop (i + 1)) (phText (phc (Pl.bt zs i))).length (zs.length - (i + 1)) 0 false false 0) := hn'
  clear hms hk hsd hbr hf hn'
  have d2 : w9.cell? ⟨w.heap.size, 2, none⟩ = some s1.closers.v := HM9.out.one.cell 2
  have hlt2 := HM9.out.ne
  have hne : w.heap.size ≠ B2 := by omega
  rw [h116]
  clear h116 hnn
  go_upto_if 126 with fail
  go_cut [12, 13] (fun t u wx => t = .int .i64 O.ret ∧ u = .bool O.bad ∧ ∃ k cl : Sl, MS w ap3 zs s1 C base w.heap.size B2 (O.S k cl) wx ∧ wx.ownsRow 0 5 1 k.v k.n (bys O.kc) ∧ wx.ownsRow 0 5 1 cl.v cl.n (bys O.cc))
  case rest =>
    obtain ⟨rfl, rfl, k2, cl, h1, h2, h3⟩ := hcut
    rw [HO0.out] at h1 h2 h3
    go_step
    exact t76 w _ ap3 zs i s1 C base B2 0 false false 0 _ _ k2 cl (by rw [HO0.out]) (by rw [HO0.out]) h1 h2 h3 HSd.out HBr.out hi hzl hcn HF.out HN.out
  case first =>
    have x6 : w9.cell? ⟨B2, 6, none⟩ = some (.string (tN s1 i k).word) := HM9.out.two.cell 6
    have y6 := HM9.out.two.free 6
    have x4 : w9.cell? ⟨B2, 4, none⟩ = some (.int .u8 (tN s1 i k).state) := HM9.out.two.cell 4
    have y4 := HM9.out.two.free 4
    go_wp2_with fail
    go_meet
    refine ⟨by rw [HO.out]; rfl, by rw [HO.out], k, s1.closers, ?_⟩
    rw [HO.out]
    have hO := ((Only.refl B2 w9).setCell 6 (.string ⟨#[114, 117, 101]⟩)).setCell 4 (.int .u8 10)
    obtain ⟨m1, m2⟩ := HM9.out.fin (Nat.le_refl _) HK9.out hO ((HM9.out.two.fWord ⟨#[114, 117, 101]⟩).fState 10)
    refine ⟨?_, m2, own_onlyB HC9.out HM9.out.two (by decide) hO⟩
    show MS w ap3 zs s1 C base w.heap.size B2 { tN s1 i k with closers := s1.closers, word := ⟨#[114, 117, 101]⟩, state := 10 } _
    rw [← tN_closers s1 (i : Int) k]
    exact m1

set_option maxHeartbeats 4000000 in
set_option maxRecDepth 100000 in
theorem t29_c102 (w w9 : World) (ap3 : Option Addr) (zs : List Int) (i : Nat) (s1 : Str) (C : Con) (base B2 : Nat) (k : Sl) {u2 u3 u4 u9 u12 u13 u14 u15 u16 u17 u18 u19 u20 u21 u22 u23 u24 u25 u26 u27 u28 u29 u30 u31 u32 u33 u34 u35 u36 u37 u38 u39 u40 u41 u42 u43 u44 u45 u46 u47 u48 u49 u50 u51 u52 u53 u54 u55 u56 u57 u58 u59 u60 u61 u62 u63 u64 u65 u66 u67 u68 u69 u70 u71 u72 u73 u74 u75 u76 u77 u78 u79 u80 u81 u82 u83 u84 u85 u86 u87 u88 u89 u90 u91 u92 u93 u94 u95 u96 u97 u98 u99 u100 u101 u102 u103 u104 u105 u106 u107 u108 u109 u110 u111 u112 u113 u114 u115 u116 u117 u118 u119 u120 u121 u122 u123 u124 u125 u126 u127 u128 u129 u130 u131 u132 u133 u134 u135 u136 u137 u138 u139 u140 u141 u142 u143 u144 u145 u146 u147 u148 u149 u150 u151 u152 u153 u154 u155 u156 u157 u158 u159 u160 u161 u162 u163 u164 u165 u166 u167 u168 u169 u170 u171 u172 u173 u174 u175 u176 u177 u178 u179 u180 u181 u182 u183 u184 u185 u186 u187 u188 u189 u190 u191 u192 u193 u194 u195 u196 u197 u198 u199 u200 u201 u202 u203 u204 u205 u206 u207 u208 u209 u210 u211 u212 u213 u214 u215 u216 u217 u218 u219 u220 u221 u222 u223 u224 u225 u226 u227 u228 u229 u230 u231 u232 u233 u234 u235 u236 u237 u238 u239 u240 : Value}
    (hms : MS w ap3 zs s1 C base w.heap.size B2 (tN s1 i k) w9) (hk : w9.ownsRow 0 5 1 k.v k.n (bys (kN s1 C.kept))) (hsd : Sound s1) (hbr : s1.broken = false) (hi : i < zs.length) (hzl : zs.length ≤ 1048576) (hcn : s1.closers.n ≤ 10000)
    (hf : numc (Pl.bt zs i) = true → ¬ (s1.named = true ∧ s1.onPath = (s1.path.n : Int)) → s1.keepDepth = (s1.closers.n : Int) → 0 ≤ s1.keepFrom ∧ s1.keepFrom ≤ i)
    (h102 : Pl.bt zs i = 102) (hnn : numc (Pl.bt zs i) = false) :
    Code.wp Try.prog ((Try.f8.body.bind (fromRegion 29)).getD .skip) (bodyPost Try.prog Try.f8 fun e w' => e = .returned (.bool true) ∧ Below w.heap.size w w') ⟨#[.slice ap3 zs.length zs.length, .int .i64 ((i : Nat) : Int), u2, u3, u4, .pointer (some ⟨w.heap.size, 0, none⟩), .bool false, .int .u8 (Pl.bt zs i), .bool (numc (Pl.bt zs i)), u9, .pointer (some ⟨B2, 0, none⟩), .bool (entN s1 (Pl.bt zs i)), u12, u13, u14, u15, u16, u17, u18, u19, u20, u21, u22, u23, u24, u25, u26, u27, u28, u29, u30, u31, u32, u33, u34, u35, u36, u37, u38, u39, u40, u41, u42, u43, u44, u45, u46, u47, u48, u49, u50, u51, u52, u53, u54, u55, u56, u57, u58, u59, u60, u61, u62, u63, u64, u65, u66, u67, u68, u69, u70, u71, u72, u73, u74, u75, u76, u77, u78, u79, u80, u81, u82, u83, u84, u85, u86, u87, u88, u89, u90, u91, u92, u93, u94, u95, u96, u97, u98, u99, u100, u101, u102, u103, u104, u105, u106, u107, u108, u109, u110, u111, u112, u113, u114, u115, u116, u117, u118, u119, u120, u121, u122, u123, u124, u125, u126, u127, u128, u129, u130, u131, u132, u133, u134, u135, u136, u137, u138, u139, u140, u141, u142, u143, u144, u145, u146, u147, u148, u149, u150, u151, u152, u153, u154, u155, u156, u157, u158, u159, u160, u161, u162, u163, u164, u165, u166, u167, u168, u169, u170, u171, u172, u173, u174, u175, u176, u177, u178, u179, u180, u181, u182, u183, u184, u185, u186, u187, u188, u189, u190, u191, u192, u193, u194, u195, u196, u197, u198, u199, u200, u201, u202, u203, u204, u205, u206, u207, u208, u209, u210, u211, u212, u213, u214, u215, u216, u217, u218, u219, u220, u221, u222, u223, u224, u225, u226, u227, u228, u229, u230, u231, u232, u233, u234, u235, u236, u237, u238, u239, u240], []⟩ w9 := by
  have hn' : numc (Pl.bt zs i) = true → Scan (phText (phc (Pl.bt zs i)) ++ zs.drop (i + 1)) (phText (phc (Pl.bt zs i))).length (zs.length - (i + 1)) 0 false false 0 := fun h => absurd h (by rw [hnn]; decide)
  have hO : table s1 C zs i 0 false false 0 = ⟨((i + 1 : Nat) : Int), false, fun k cl => { tN s1 i k with closers := cl, word := ⟨#[97, 108, 115, 101]⟩, state := 10 }, kN s1 C.kept, C.closers⟩ := by
    unfold table; rw [if_neg (by omega), if_neg (by omega), if_neg (by omega), if_pos h102]
  conv => arg 2; whnf
  obtain ⟨O, hOO⟩ : ∃ O, O = table s1 C zs i 0 false false 0 := ⟨_, rfl⟩
  have HO : Hid (O = _) := hOO.trans hO
  have HO0 : Hid (O = table s1 C zs i 0 false false 0) := hOO
  clear hO hOO
  have HM9 : Hid (MS w ap3 zs s1 C base w.heap.size B2 (tN s1 i k) w9) := hms
  have HK9 : Hid (w9.ownsRow 0 5 1 k.v k.n (bys (kN s1 C.kept))) := hk
  have HC9 : Hid (w9.ownsRow 0 5 1 s1.closers.v s1.closers.n (bys C.closers)) := own_base hms.owned.closers (Nat.zero_le _)
  have HSd : Hid (Sound s1) := hsd
  have HBr : Hid (s1.broken = false) := hbr
  have HF : Hid (numc (Pl.bt zs i) = true → ¬ (s1.named = true ∧ s1.onPath = (s1.path.n : Int)) → s1.keepDepth = (s1.closers.n : Int) → 0 ≤ s1.keepFrom ∧ s1.keepFrom ≤ i) := hf
  have HN : Hid (numc (Pl.bt zs i) = true → Scan (phText (phc (Pl.bt zs i)) ++ zs.drop (i + 1)) (phText (phc (Pl.bt zs i))).length (zs.length - (i + 1)) 0 false false 0) := hn'
  clear hms hk hsd hbr hf hn'
  have d2 : w9.cell? ⟨w.heap.size, 2, none⟩ = some s1.closers.v := HM9.out.one.cell 2
  have hlt2 := HM9.out.ne
  have hne : w.heap.size ≠ B2 := by omega
  rw [h102]
  clear h102 hnn
  go_upto_if 126 with fail
  go_cut [12, 13] (fun t u wx => t = .int .i64 O.ret ∧ u = .bool O.bad ∧ ∃ k cl : Sl, MS w ap3 zs s1 C base w.heap.size B2 (O.S k cl) wx ∧ wx.ownsRow 0 5 1 k.v k.n (bys O.kc) ∧ wx.ownsRow 0 5 1 cl.v cl.n (bys O.cc))
  case rest =>
    obtain ⟨rfl, rfl, k2, cl, h1, h2, h3⟩ := hcut
    rw [HO0.out] at h1 h2 h3
    go_step
    exact t76 w _ ap3 zs i s1 C base B2 0 false false 0 _ _ k2 cl (by rw [HO0.out]) (by rw [HO0.out]) h1 h2 h3 HSd.out HBr.out hi hzl hcn HF.out HN.out
  case first =>
    have x6 : w9.cell? ⟨B2, 6, none⟩ = some (.string (tN s1 i k).word) := HM9.out.two.cell 6
    have y6 := HM9.out.two.free 6
    have x4 : w9.cell? ⟨B2, 4, none⟩ = some (.int .u8 (tN s1 i k).state) := HM9.out.two.cell 4
    have y4 := HM9.out.two.free 4
    go_wp2_with fail
    go_meet
    refine ⟨by rw [HO.out]; rfl, by rw [HO.out], k, s1.closers, ?_⟩
    rw [HO.out]
    have hO := ((Only.refl B2 w9).setCell 6 (.string ⟨#[97, 108, 115, 101]⟩)).setCell 4 (.int .u8 10)
    obtain ⟨m1, m2⟩ := HM9.out.fin (Nat.le_refl _) HK9.out hO ((HM9.out.two.fWord ⟨#[97, 108, 115, 101]⟩).fState 10)
    refine ⟨?_, m2, own_onlyB HC9.out HM9.out.two (by decide) hO⟩
    show MS w ap3 zs s1 C base w.heap.size B2 { tN s1 i k with closers := s1.closers, word := ⟨#[97, 108, 115, 101]⟩, state := 10 } _
    rw [← tN_closers s1 (i : Int) k]
    exact m1

set_option maxHeartbeats 4000000 in
set_option maxRecDepth 100000 in
theorem t29_c110 (w w9 : World) (ap3 : Option Addr) (zs : List Int) (i : Nat) (s1 : Str) (C : Con) (base B2 : Nat) (k : Sl) {u2 u3 u4 u9 u12 u13 u14 u15 u16 u17 u18 u19 u20 u21 u22 u23 u24 u25 u26 u27 u28 u29 u30 u31 u32 u33 u34 u35 u36 u37 u38 u39 u40 u41 u42 u43 u44 u45 u46 u47 u48 u49 u50 u51 u52 u53 u54 u55 u56 u57 u58 u59 u60 u61 u62 u63 u64 u65 u66 u67 u68 u69 u70 u71 u72 u73 u74 u75 u76 u77 u78 u79 u80 u81 u82 u83 u84 u85 u86 u87 u88 u89 u90 u91 u92 u93 u94 u95 u96 u97 u98 u99 u100 u101 u102 u103 u104 u105 u106 u107 u108 u109 u110 u111 u112 u113 u114 u115 u116 u117 u118 u119 u120 u121 u122 u123 u124 u125 u126 u127 u128 u129 u130 u131 u132 u133 u134 u135 u136 u137 u138 u139 u140 u141 u142 u143 u144 u145 u146 u147 u148 u149 u150 u151 u152 u153 u154 u155 u156 u157 u158 u159 u160 u161 u162 u163 u164 u165 u166 u167 u168 u169 u170 u171 u172 u173 u174 u175 u176 u177 u178 u179 u180 u181 u182 u183 u184 u185 u186 u187 u188 u189 u190 u191 u192 u193 u194 u195 u196 u197 u198 u199 u200 u201 u202 u203 u204 u205 u206 u207 u208 u209 u210 u211 u212 u213 u214 u215 u216 u217 u218 u219 u220 u221 u222 u223 u224 u225 u226 u227 u228 u229 u230 u231 u232 u233 u234 u235 u236 u237 u238 u239 u240 : Value}
    (hms : MS w ap3 zs s1 C base w.heap.size B2 (tN s1 i k) w9) (hk : w9.ownsRow 0 5 1 k.v k.n (bys (kN s1 C.kept))) (hsd : Sound s1) (hbr : s1.broken = false) (hi : i < zs.length) (hzl : zs.length ≤ 1048576) (hcn : s1.closers.n ≤ 10000)
    (hf : numc (Pl.bt zs i) = true → ¬ (s1.named = true ∧ s1.onPath = (s1.path.n : Int)) → s1.keepDepth = (s1.closers.n : Int) → 0 ≤ s1.keepFrom ∧ s1.keepFrom ≤ i)
    (h110 : Pl.bt zs i = 110) (hnn : numc (Pl.bt zs i) = false) :
    Code.wp Try.prog ((Try.f8.body.bind (fromRegion 29)).getD .skip) (bodyPost Try.prog Try.f8 fun e w' => e = .returned (.bool true) ∧ Below w.heap.size w w') ⟨#[.slice ap3 zs.length zs.length, .int .i64 ((i : Nat) : Int), u2, u3, u4, .pointer (some ⟨w.heap.size, 0, none⟩), .bool false, .int .u8 (Pl.bt zs i), .bool (numc (Pl.bt zs i)), u9, .pointer (some ⟨B2, 0, none⟩), .bool (entN s1 (Pl.bt zs i)), u12, u13, u14, u15, u16, u17, u18, u19, u20, u21, u22, u23, u24, u25, u26, u27, u28, u29, u30, u31, u32, u33, u34, u35, u36, u37, u38, u39, u40, u41, u42, u43, u44, u45, u46, u47, u48, u49, u50, u51, u52, u53, u54, u55, u56, u57, u58, u59, u60, u61, u62, u63, u64, u65, u66, u67, u68, u69, u70, u71, u72, u73, u74, u75, u76, u77, u78, u79, u80, u81, u82, u83, u84, u85, u86, u87, u88, u89, u90, u91, u92, u93, u94, u95, u96, u97, u98, u99, u100, u101, u102, u103, u104, u105, u106, u107, u108, u109, u110, u111, u112, u113, u114, u115, u116, u117, u118, u119, u120, u121, u122, u123, u124, u125, u126, u127, u128, u129, u130, u131, u132, u133, u134, u135, u136, u137, u138, u139, u140, u141, u142, u143, u144, u145, u146, u147, u148, u149, u150, u151, u152, u153, u154, u155, u156, u157, u158, u159, u160, u161, u162, u163, u164, u165, u166, u167, u168, u169, u170, u171, u172, u173, u174, u175, u176, u177, u178, u179, u180, u181, u182, u183, u184, u185, u186, u187, u188, u189, u190, u191, u192, u193, u194, u195, u196, u197, u198, u199, u200, u201, u202, u203, u204, u205, u206, u207, u208, u209, u210, u211, u212, u213, u214, u215, u216, u217, u218, u219, u220, u221, u222, u223, u224, u225, u226, u227, u228, u229, u230, u231, u232, u233, u234, u235, u236, u237, u238, u239, u240], []⟩ w9 := by
  have hn' : numc (Pl.bt zs i) = true → Scan (phText (phc (Pl.bt zs i)) ++ zs.drop (i + 1)) (phText (phc (Pl.bt zs i))).length (zs.length - (i + 1)) 0 false false 0 := fun h => absurd h (by rw [hnn]; decide)
  have hO : table s1 C zs i 0 false false 0 = ⟨((i + 1 : Nat) : Int), false, fun k cl => { tN s1 i k with closers := cl, word := ⟨#[117, 108, 108]⟩, state := 10 }, kN s1 C.kept, C.closers⟩ := by
    unfold table; rw [if_neg (by omega), if_neg (by omega), if_neg (by omega), if_neg (by omega), if_pos h110]
  conv => arg 2; whnf
  obtain ⟨O, hOO⟩ : ∃ O, O = table s1 C zs i 0 false false 0 := ⟨_, rfl⟩
  have HO : Hid (O = _) := hOO.trans hO
  have HO0 : Hid (O = table s1 C zs i 0 false false 0) := hOO
  clear hO hOO
  have HM9 : Hid (MS w ap3 zs s1 C base w.heap.size B2 (tN s1 i k) w9) := hms
  have HK9 : Hid (w9.ownsRow 0 5 1 k.v k.n (bys (kN s1 C.kept))) := hk
  have HC9 : Hid (w9.ownsRow 0 5 1 s1.closers.v s1.closers.n (bys C.closers)) := own_base hms.owned.closers (Nat.zero_le _)
  have HSd : Hid (Sound s1) := hsd
  have HBr : Hid (s1.broken = false) := hbr
  have HF : Hid (numc (Pl.bt zs i) = true → ¬ (s1.named = true ∧ s1.onPath = (s1.path.n : Int)) → s1.keepDepth = (s1.closers.n : Int) → 0 ≤ s1.keepFrom ∧ s1.keepFrom ≤ i) := hf
  have HN : Hid (numc (Pl.bt zs i) = true → Scan (phText (phc (Pl.bt zs i)) ++ zs.drop (i + 1)) (phText (phc (Pl.bt zs i))).length (zs.length - (i + 1)) 0 false false 0) := hn'
  clear hms hk hsd hbr hf hn'
  have d2 : w9.cell? ⟨w.heap.size, 2, none⟩ = some s1.closers.v := HM9.out.one.cell 2
  have hlt2 := HM9.out.ne
  have hne : w.heap.size ≠ B2 := by omega
  rw [h110]
  clear h110 hnn
  go_upto_if 126 with fail
  go_cut [12, 13] (fun t u wx => t = .int .i64 O.ret ∧ u = .bool O.bad ∧ ∃ k cl : Sl, MS w ap3 zs s1 C base w.heap.size B2 (O.S k cl) wx ∧ wx.ownsRow 0 5 1 k.v k.n (bys O.kc) ∧ wx.ownsRow 0 5 1 cl.v cl.n (bys O.cc))
  case rest =>
    obtain ⟨rfl, rfl, k2, cl, h1, h2, h3⟩ := hcut
    rw [HO0.out] at h1 h2 h3
    go_step
    exact t76 w _ ap3 zs i s1 C base B2 0 false false 0 _ _ k2 cl (by rw [HO0.out]) (by rw [HO0.out]) h1 h2 h3 HSd.out HBr.out hi hzl hcn HF.out HN.out
  case first =>
    have x6 : w9.cell? ⟨B2, 6, none⟩ = some (.string (tN s1 i k).word) := HM9.out.two.cell 6
    have y6 := HM9.out.two.free 6
    have x4 : w9.cell? ⟨B2, 4, none⟩ = some (.int .u8 (tN s1 i k).state) := HM9.out.two.cell 4
    have y4 := HM9.out.two.free 4
    go_wp2_with fail
    go_meet
    refine ⟨by rw [HO.out]; rfl, by rw [HO.out], k, s1.closers, ?_⟩
    rw [HO.out]
    have hO := ((Only.refl B2 w9).setCell 6 (.string ⟨#[117, 108, 108]⟩)).setCell 4 (.int .u8 10)
    obtain ⟨m1, m2⟩ := HM9.out.fin (Nat.le_refl _) HK9.out hO ((HM9.out.two.fWord ⟨#[117, 108, 108]⟩).fState 10)
    refine ⟨?_, m2, own_onlyB HC9.out HM9.out.two (by decide) hO⟩
    show MS w ap3 zs s1 C base w.heap.size B2 { tN s1 i k with closers := s1.closers, word := ⟨#[117, 108, 108]⟩, state := 10 } _
    rw [← tN_closers s1 (i : Int) k]
    exact m1

set_option maxHeartbeats 4000000 in
set_option maxRecDepth 100000 in
theorem t29_b123true (w w9 : World) (ap3 : Option Addr) (zs : List Int) (i : Nat) (s1 : Str) (C : Con) (base B2 : Nat) (k : Sl) {u2 u3 u4 u9 u12 u13 u14 u15 u16 u17 u18 u19 u20 u21 u22 u23 u24 u25 u26 u27 u28 u29 u30 u31 u32 u33 u34 u35 u36 u37 u38 u39 u40 u41 u42 u43 u44 u45 u46 u47 u48 u49 u50 u51 u52 u53 u54 u55 u56 u57 u58 u59 u60 u61 u62 u63 u64 u65 u66 u67 u68 u69 u70 u71 u72 u73 u74 u75 u76 u77 u78 u79 u80 u81 u82 u83 u84 u85 u86 u87 u88 u89 u90 u91 u92 u93 u94 u95 u96 u97 u98 u99 u100 u101 u102 u103 u104 u105 u106 u107 u108 u109 u110 u111 u112 u113 u114 u115 u116 u117 u118 u119 u120 u121 u122 u123 u124 u125 u126 u127 u128 u129 u130 u131 u132 u133 u134 u135 u136 u137 u138 u139 u140 u141 u142 u143 u144 u145 u146 u147 u148 u149 u150 u151 u152 u153 u154 u155 u156 u157 u158 u159 u160 u161 u162 u163 u164 u165 u166 u167 u168 u169 u170 u171 u172 u173 u174 u175 u176 u177 u178 u179 u180 u181 u182 u183 u184 u185 u186 u187 u188 u189 u190 u191 u192 u193 u194 u195 u196 u197 u198 u199 u200 u201 u202 u203 u204 u205 u206 u207 u208 u209 u210 u211 u212 u213 u214 u215 u216 u217 u218 u219 u220 u221 u222 u223 u224 u225 u226 u227 u228 u229 u230 u231 u232 u233 u234 u235 u236 u237 u238 u239 u240 : Value}
    (hms : MS w ap3 zs s1 C base w.heap.size B2 (tN s1 i k) w9) (hk : w9.ownsRow 0 5 1 k.v k.n (bys (kN s1 C.kept))) (hsd : Sound s1) (hbr : s1.broken = false) (hi : i < zs.length) (hzl : zs.length ≤ 1048576) (hcn : s1.closers.n ≤ 10000)
    (hf : numc (Pl.bt zs i) = true → ¬ (s1.named = true ∧ s1.onPath = (s1.path.n : Int)) → s1.keepDepth = (s1.closers.n : Int) → 0 ≤ s1.keepFrom ∧ s1.keepFrom ≤ i)
    (h123 : Pl.bt zs i = 123) (hfull : ¬ s1.closers.n = 10000) (hen : entN s1 (Pl.bt zs i) = true) (hnn : numc (Pl.bt zs i) = false) :
    Code.wp Try.prog ((Try.f8.body.bind (fromRegion 29)).getD .skip) (bodyPost Try.prog Try.f8 fun e w' => e = .returned (.bool true) ∧ Below w.heap.size w w') ⟨#[.slice ap3 zs.length zs.length, .int .i64 ((i : Nat) : Int), u2, u3, u4, .pointer (some ⟨w.heap.size, 0, none⟩), .bool false, .int .u8 (Pl.bt zs i), .bool (numc (Pl.bt zs i)), u9, .pointer (some ⟨B2, 0, none⟩), .bool (entN s1 (Pl.bt zs i)), u12, u13, u14, u15, u16, u17, u18, u19, u20, u21, u22, u23, u24, u25, u26, u27, u28, u29, u30, u31, u32, u33, u34, u35, u36, u37, u38, u39, u40, u41, u42, u43, u44, u45, u46, u47, u48, u49, u50, u51, u52, u53, u54, u55, u56, u57, u58, u59, u60, u61, u62, u63, u64, u65, u66, u67, u68, u69, u70, u71, u72, u73, u74, u75, u76, u77, u78, u79, u80, u81, u82, u83, u84, u85, u86, u87, u88, u89, u90, u91, u92, u93, u94, u95, u96, u97, u98, u99, u100, u101, u102, u103, u104, u105, u106, u107, u108, u109, u110, u111, u112, u113, u114, u115, u116, u117, u118, u119, u120, u121, u122, u123, u124, u125, u126, u127, u128, u129, u130, u131, u132, u133, u134, u135, u136, u137, u138, u139, u140, u141, u142, u143, u144, u145, u146, u147, u148, u149, u150, u151, u152, u153, u154, u155, u156, u157, u158, u159, u160, u161, u162, u163, u164, u165, u166, u167, u168, u169, u170, u171, u172, u173, u174, u175, u176, u177, u178, u179, u180, u181, u182, u183, u184, u185, u186, u187, u188, u189, u190, u191, u192, u193, u194, u195, u196, u197, u198, u199, u200, u201, u202, u203, u204, u205, u206, u207, u208, u209, u210, u211, u212, u213, u214, u215, u216, u217, u218, u219, u220, u221, u222, u223, u224, u225, u226, u227, u228, u229, u230, u231, u232, u233, u234, u235, u236, u237, u238, u239, u240], []⟩ w9 := by
  have hn' : numc (Pl.bt zs i) = true → Scan (phText (phc (Pl.bt zs i)) ++ zs.drop (i + 1)) (phText (phc (Pl.bt zs i))).length (zs.length - (i + 1)) 0 false false 0 := fun h => absurd h (by rw [hnn]; decide)
  have hO : table s1 C zs i 0 false false 0 = ⟨((i + 1 : Nat) : Int), false, fun k cl => { tN s1 i k with closers := cl, state := 1, onPath := bump s1 true }, kN s1 C.kept, C.closers ++ [125]⟩ := by
    unfold table; rw [if_pos (Or.inl h123), if_neg hfull, hen, if_pos h123, if_pos h123]
  conv => arg 2; whnf
  obtain ⟨O, hOO⟩ : ∃ O, O = table s1 C zs i 0 false false 0 := ⟨_, rfl⟩
  have HO : Hid (O = _) := hOO.trans hO
  have HO0 : Hid (O = table s1 C zs i 0 false false 0) := hOO
  clear hO hOO
  have HM9 : Hid (MS w ap3 zs s1 C base w.heap.size B2 (tN s1 i k) w9) := hms
  have HK9 : Hid (w9.ownsRow 0 5 1 k.v k.n (bys (kN s1 C.kept))) := hk
  have HC9 : Hid (w9.ownsRow 0 5 1 s1.closers.v s1.closers.n (bys C.closers)) := own_base hms.owned.closers (Nat.zero_le _)
  have HSd : Hid (Sound s1) := hsd
  have HBr : Hid (s1.broken = false) := hbr
  have HF : Hid (numc (Pl.bt zs i) = true → ¬ (s1.named = true ∧ s1.onPath = (s1.path.n : Int)) → s1.keepDepth = (s1.closers.n : Int) → 0 ≤ s1.keepFrom ∧ s1.keepFrom ≤ i) := hf
  have HN : Hid (numc (Pl.bt zs i) = true → Scan (phText (phc (Pl.bt zs i)) ++ zs.drop (i + 1)) (phText (phc (Pl.bt zs i))).length (zs.length - (i + 1)) 0 false false 0) := hn'
  clear hms hk hsd hbr hf hn'
  have d2 : w9.cell? ⟨w.heap.size, 2, none⟩ = some s1.closers.v := HM9.out.one.cell 2
  have hlt2 := HM9.out.ne
  have hne : w.heap.size ≠ B2 := by omega
  have hge : ¬ (10000 : Int) ≤ (s1.closers.n : Int) := by omega
  rw [hen]
  rw [h123]
  clear h123 hfull hnn hen
  go_upto_if 126 with fail
  go_cut [12, 13] (fun t u wx => t = .int .i64 O.ret ∧ u = .bool O.bad ∧ ∃ k cl : Sl, MS w ap3 zs s1 C base w.heap.size B2 (O.S k cl) wx ∧ wx.ownsRow 0 5 1 k.v k.n (bys O.kc) ∧ wx.ownsRow 0 5 1 cl.v cl.n (bys O.cc))
  case rest =>
    obtain ⟨rfl, rfl, k2, cl, h1, h2, h3⟩ := hcut
    rw [HO0.out] at h1 h2 h3
    go_step
    exact t76 w _ ap3 zs i s1 C base B2 0 false false 0 _ _ k2 cl (by rw [HO0.out]) (by rw [HO0.out]) h1 h2 h3 HSd.out HBr.out hi hzl hcn HF.out HN.out
  case first =>
    have x4 : w9.cell? ⟨B2, 4, none⟩ = some (.int .u8 (tN s1 i k).state) := HM9.out.two.cell 4
    have y4 := HM9.out.two.free 4
    go_upto_region 40 with fail
    obtain ⟨W2, hW2⟩ : ∃ W, W = w9.setCell ⟨B2, 4, none⟩ (.int .u8 1) := ⟨_, rfl⟩
    rw [← hW2]
    have HM2 : Hid (MS w ap3 zs s1 C base w.heap.size B2 { tN s1 i k with state := 1 } W2 ∧ W2.ownsRow 0 5 1 k.v k.n (bys (kN s1 C.kept))) := by
      rw [hW2]; exact HM9.out.fin (Nat.le_refl _) HK9.out ((Only.refl B2 w9).setCell 4 _) (HM9.out.two.fState 1)
    have x2 : W2.cell? ⟨w.heap.size, 2, none⟩ = some s1.closers.v := HM2.out.1.one.cell 2
    clear hW2 x4 y4 d2
    go_wp2_with fail
    have b3 : Below W2.heap.size W2 (W2.alloc (.cells #[.int .u8 125] 5)) := (Below.refl _ _).alloc (Nat.le_refl _) _
    have h1c : Rd (W2.alloc (.cells #[.int .u8 125] 5)) (some ⟨W2.heap.size, 0, none⟩) [125] :=
      rd_of_owns (World.ownsRow_lit (base := 0) (e := 5) (size := 1) W2 #[Value.int IntKind.u8 125] 1 (Nat.zero_le _) (by decide) rfl)
    refine (concat_any _ _ s1.closers.n 1 _ _ C.closers [125] _ (rd_below HM2.out.1.owned.reads.closers b3) h1c HM2.out.1.owned.reads.closersN rfl (by have := HSd.out.closersL; omega)).mono ?_
    rintro e w4 ⟨a4, rfl, h4, b4⟩
    have b34 : Below W2.heap.size W2 w4 := b3.trans' b4
    have HM4 : Hid (MS w ap3 zs s1 C base w.heap.size B2 { tN s1 i k with state := 1 } w4) := HM2.out.1.call (Nat.le_refl _) b34
    have HK4 : Hid (w4.ownsRow 0 5 1 k.v k.n (bys (kN s1 C.kept))) := owns_below HM2.out.2 b34
    have HC4 : Hid (w4.ownsRow 0 5 1 (Sl.v ⟨a4, s1.closers.n + 1, s1.closers.n + 1⟩) (s1.closers.n + 1) (bys (C.closers ++ [125]))) := own_base h4 (Nat.zero_le _)
    have z2 : w4.cell? ⟨B2, 2, none⟩ = some (tN s1 i k).closers.v := HM4.out.two.cell 2
    have v2 := HM4.out.two.free 2
    have z3 : w4.cell? ⟨B2, 3, none⟩ = some (.int .i64 (tN s1 i k).onPath) := HM4.out.two.cell 3
    have v3 := HM4.out.two.free 3
    have q3 : w4.cell? ⟨w.heap.size, 3, none⟩ = some (.int .i64 s1.onPath) := HM4.out.one.cell 3
    clear b3 h1c h4 b4 b34 x2 HM2
    go_wp2_with fail
    go_meet
    refine ⟨by rw [HO.out]; rfl, by rw [HO.out], k, ⟨a4, s1.closers.n + 1, s1.closers.n + 1⟩, ?_⟩
    rw [HO.out]
    have hO := ((Only.refl B2 w4).setCell 2 (Sl.v ⟨a4, s1.closers.n + 1, s1.closers.n + 1⟩)).setCell 3 (.int .i64 (wrap64 (s1.onPath + 1)))
    obtain ⟨m1, m2⟩ := HM4.out.fin (Nat.le_refl _) HK4.out hO ((HM4.out.two.fClosers ⟨a4, s1.closers.n + 1, s1.closers.n + 1⟩).fOnPath (wrap64 (s1.onPath + 1)))
    exact ⟨m1, m2, own_onlyB HC4.out HM4.out.two (by decide) hO⟩

set_option maxHeartbeats 4000000 in
set_option maxRecDepth 100000 in
theorem t29_b123false (w w9 : World) (ap3 : Option Addr) (zs : List Int) (i : Nat) (s1 : Str) (C : Con) (base B2 : Nat) (k : Sl) {u2 u3 u4 u9 u12 u13 u14 u15 u16 u17 u18 u19 u20 u21 u22 u23 u24 u25 u26 u27 u28 u29 u30 u31 u32 u33 u34 u35 u36 u37 u38 u39 u40 u41 u42 u43 u44 u45 u46 u47 u48 u49 u50 u51 u52 u53 u54 u55 u56 u57 u58 u59 u60 u61 u62 u63 u64 u65 u66 u67 u68 u69 u70 u71 u72 u73 u74 u75 u76 u77 u78 u79 u80 u81 u82 u83 u84 u85 u86 u87 u88 u89 u90 u91 u92 u93 u94 u95 u96 u97 u98 u99 u100 u101 u102 u103 u104 u105 u106 u107 u108 u109 u110 u111 u112 u113 u114 u115 u116 u117 u118 u119 u120 u121 u122 u123 u124 u125 u126 u127 u128 u129 u130 u131 u132 u133 u134 u135 u136 u137 u138 u139 u140 u141 u142 u143 u144 u145 u146 u147 u148 u149 u150 u151 u152 u153 u154 u155 u156 u157 u158 u159 u160 u161 u162 u163 u164 u165 u166 u167 u168 u169 u170 u171 u172 u173 u174 u175 u176 u177 u178 u179 u180 u181 u182 u183 u184 u185 u186 u187 u188 u189 u190 u191 u192 u193 u194 u195 u196 u197 u198 u199 u200 u201 u202 u203 u204 u205 u206 u207 u208 u209 u210 u211 u212 u213 u214 u215 u216 u217 u218 u219 u220 u221 u222 u223 u224 u225 u226 u227 u228 u229 u230 u231 u232 u233 u234 u235 u236 u237 u238 u239 u240 : Value}
    (hms : MS w ap3 zs s1 C base w.heap.size B2 (tN s1 i k) w9) (hk : w9.ownsRow 0 5 1 k.v k.n (bys (kN s1 C.kept))) (hsd : Sound s1) (hbr : s1.broken = false) (hi : i < zs.length) (hzl : zs.length ≤ 1048576) (hcn : s1.closers.n ≤ 10000)
    (hf : numc (Pl.bt zs i) = true → ¬ (s1.named = true ∧ s1.onPath = (s1.path.n : Int)) → s1.keepDepth = (s1.closers.n : Int) → 0 ≤ s1.keepFrom ∧ s1.keepFrom ≤ i)
    (h123 : Pl.bt zs i = 123) (hfull : ¬ s1.closers.n = 10000) (hen : entN s1 (Pl.bt zs i) = false) (hnn : numc (Pl.bt zs i) = false) :
    Code.wp Try.prog ((Try.f8.body.bind (fromRegion 29)).getD .skip) (bodyPost Try.prog Try.f8 fun e w' => e = .returned (.bool true) ∧ Below w.heap.size w w') ⟨#[.slice ap3 zs.length zs.length, .int .i64 ((i : Nat) : Int), u2, u3, u4, .pointer (some ⟨w.heap.size, 0, none⟩), .bool false, .int .u8 (Pl.bt zs i), .bool (numc (Pl.bt zs i)), u9, .pointer (some ⟨B2, 0, none⟩), .bool (entN s1 (Pl.bt zs i)), u12, u13, u14, u15, u16, u17, u18, u19, u20, u21, u22, u23, u24, u25, u26, u27, u28, u29, u30, u31, u32, u33, u34, u35, u36, u37, u38, u39, u40, u41, u42, u43, u44, u45, u46, u47, u48, u49, u50, u51, u52, u53, u54, u55, u56, u57, u58, u59, u60, u61, u62, u63, u64, u65, u66, u67, u68, u69, u70, u71, u72, u73, u74, u75, u76, u77, u78, u79, u80, u81, u82, u83, u84, u85, u86, u87, u88, u89, u90, u91, u92, u93, u94, u95, u96, u97, u98, u99, u100, u101, u102, u103, u104, u105, u106, u107, u108, u109, u110, u111, u112, u113, u114, u115, u116, u117, u118, u119, u120, u121, u122, u123, u124, u125, u126, u127, u128, u129, u130, u131, u132, u133, u134, u135, u136, u137, u138, u139, u140, u141, u142, u143, u144, u145, u146, u147, u148, u149, u150, u151, u152, u153, u154, u155, u156, u157, u158, u159, u160, u161, u162, u163, u164, u165, u166, u167, u168, u169, u170, u171, u172, u173, u174, u175, u176, u177, u178, u179, u180, u181, u182, u183, u184, u185, u186, u187, u188, u189, u190, u191, u192, u193, u194, u195, u196, u197, u198, u199, u200, u201, u202, u203, u204, u205, u206, u207, u208, u209, u210, u211, u212, u213, u214, u215, u216, u217, u218, u219, u220, u221, u222, u223, u224, u225, u226, u227, u228, u229, u230, u231, u232, u233, u234, u235, u236, u237, u238, u239, u240], []⟩ w9 := by
  have hn' : numc (Pl.bt zs i) = true → Scan (phText (phc (Pl.bt zs i)) ++ zs.drop (i + 1)) (phText (phc (Pl.bt zs i))).length (zs.length - (i + 1)) 0 false false 0 := fun h => absurd h (by rw [hnn]; decide)
  have hO : table s1 C zs i 0 false false 0 = ⟨((i + 1 : Nat) : Int), false, fun k cl => { tN s1 i k with closers := cl, state := 1, onPath := bump s1 false }, kN s1 C.kept, C.closers ++ [125]⟩ := by
    unfold table; rw [if_pos (Or.inl h123), if_neg hfull, hen, if_pos h123, if_pos h123]
  conv => arg 2; whnf
  obtain ⟨O, hOO⟩ : ∃ O, O = table s1 C zs i 0 false false 0 := ⟨_, rfl⟩
  have HO : Hid (O = _) := hOO.trans hO
  have HO0 : Hid (O = table s1 C zs i 0 false false 0) := hOO
  clear hO hOO
  have HM9 : Hid (MS w ap3 zs s1 C base w.heap.size B2 (tN s1 i k) w9) := hms
  have HK9 : Hid (w9.ownsRow 0 5 1 k.v k.n (bys (kN s1 C.kept))) := hk
  have HC9 : Hid (w9.ownsRow 0 5 1 s1.closers.v s1.closers.n (bys C.closers)) := own_base hms.owned.closers (Nat.zero_le _)
  have HSd : Hid (Sound s1) := hsd
  have HBr : Hid (s1.broken = false) := hbr
  have HF : Hid (numc (Pl.bt zs i) = true → ¬ (s1.named = true ∧ s1.onPath = (s1.path.n : Int)) → s1.keepDepth = (s1.closers.n : Int) → 0 ≤ s1.keepFrom ∧ s1.keepFrom ≤ i) := hf
  have HN : Hid (numc (Pl.bt zs i) = true → Scan (phText (phc (Pl.bt zs i)) ++ zs.drop (i + 1)) (phText (phc (Pl.bt zs i))).length (zs.length - (i + 1)) 0 false false 0) := hn'
  clear hms hk hsd hbr hf hn'
  have d2 : w9.cell? ⟨w.heap.size, 2, none⟩ = some s1.closers.v := HM9.out.one.cell 2
  have hlt2 := HM9.out.ne
  have hne : w.heap.size ≠ B2 := by omega
  have hge : ¬ (10000 : Int) ≤ (s1.closers.n : Int) := by omega
  rw [hen]
  rw [h123]
  clear h123 hfull hnn hen
  go_upto_if 126 with fail
  go_cut [12, 13] (fun t u wx => t = .int .i64 O.ret ∧ u = .bool O.bad ∧ ∃ k cl : Sl, MS w ap3 zs s1 C base w.heap.size B2 (O.S k cl) wx ∧ wx.ownsRow 0 5 1 k.v k.n (bys O.kc) ∧ wx.ownsRow 0 5 1 cl.v cl.n (bys O.cc))
  case rest =>
    obtain ⟨rfl, rfl, k2, cl, h1, h2, h3⟩ := hcut
    rw [HO0.out] at h1 h2 h3
    go_step
    exact t76 w _ ap3 zs i s1 C base B2 0 false false 0 _ _ k2 cl (by rw [HO0.out]) (by rw [HO0.out]) h1 h2 h3 HSd.out HBr.out hi hzl hcn HF.out HN.out
  case first =>
    have x4 : w9.cell? ⟨B2, 4, none⟩ = some (.int .u8 (tN s1 i k).state) := HM9.out.two.cell 4
    have y4 := HM9.out.two.free 4
    go_upto_region 40 with fail
    obtain ⟨W2, hW2⟩ : ∃ W, W = w9.setCell ⟨B2, 4, none⟩ (.int .u8 1) := ⟨_, rfl⟩
    rw [← hW2]
    have HM2 : Hid (MS w ap3 zs s1 C base w.heap.size B2 { tN s1 i k with state := 1 } W2 ∧ W2.ownsRow 0 5 1 k.v k.n (bys (kN s1 C.kept))) := by
      rw [hW2]; exact HM9.out.fin (Nat.le_refl _) HK9.out ((Only.refl B2 w9).setCell 4 _) (HM9.out.two.fState 1)
    have x2 : W2.cell? ⟨w.heap.size, 2, none⟩ = some s1.closers.v := HM2.out.1.one.cell 2
    clear hW2 x4 y4 d2
    go_wp2_with fail
    have b3 : Below W2.heap.size W2 (W2.alloc (.cells #[.int .u8 125] 5)) := (Below.refl _ _).alloc (Nat.le_refl _) _
    have h1c : Rd (W2.alloc (.cells #[.int .u8 125] 5)) (some ⟨W2.heap.size, 0, none⟩) [125] :=
      rd_of_owns (World.ownsRow_lit (base := 0) (e := 5) (size := 1) W2 #[Value.int IntKind.u8 125] 1 (Nat.zero_le _) (by decide) rfl)
    refine (concat_any _ _ s1.closers.n 1 _ _ C.closers [125] _ (rd_below HM2.out.1.owned.reads.closers b3) h1c HM2.out.1.owned.reads.closersN rfl (by have := HSd.out.closersL; omega)).mono ?_
    rintro e w4 ⟨a4, rfl, h4, b4⟩
    have b34 : Below W2.heap.size W2 w4 := b3.trans' b4
    have HM4 : Hid (MS w ap3 zs s1 C base w.heap.size B2 { tN s1 i k with state := 1 } w4) := HM2.out.1.call (Nat.le_refl _) b34
    have HK4 : Hid (w4.ownsRow 0 5 1 k.v k.n (bys (kN s1 C.kept))) := owns_below HM2.out.2 b34
    have HC4 : Hid (w4.ownsRow 0 5 1 (Sl.v ⟨a4, s1.closers.n + 1, s1.closers.n + 1⟩) (s1.closers.n + 1) (bys (C.closers ++ [125]))) := own_base h4 (Nat.zero_le _)
    have z2 : w4.cell? ⟨B2, 2, none⟩ = some (tN s1 i k).closers.v := HM4.out.two.cell 2
    have v2 := HM4.out.two.free 2
    have z3 : w4.cell? ⟨B2, 3, none⟩ = some (.int .i64 (tN s1 i k).onPath) := HM4.out.two.cell 3
    have v3 := HM4.out.two.free 3
    have q3 : w4.cell? ⟨w.heap.size, 3, none⟩ = some (.int .i64 s1.onPath) := HM4.out.one.cell 3
    clear b3 h1c h4 b4 b34 x2 HM2
    go_wp2_with fail
    go_meet
    refine ⟨by rw [HO.out]; rfl, by rw [HO.out], k, ⟨a4, s1.closers.n + 1, s1.closers.n + 1⟩, ?_⟩
    rw [HO.out]
    have hO := (Only.refl B2 w4).setCell 2 (Sl.v ⟨a4, s1.closers.n + 1, s1.closers.n + 1⟩)
    obtain ⟨m1, m2⟩ := HM4.out.fin (Nat.le_refl _) HK4.out hO (HM4.out.two.fClosers ⟨a4, s1.closers.n + 1, s1.closers.n + 1⟩)
    refine ⟨?_, m2, own_onlyB HC4.out HM4.out.two (by decide) hO⟩
    show MS w ap3 zs s1 C base w.heap.size B2 { tN s1 i k with closers := ⟨a4, s1.closers.n + 1, s1.closers.n + 1⟩, state := 1, onPath := bump s1 false } _
    have h7 : bump s1 false = (tN s1 i k).onPath := (tN_onPath s1 (i : Int) k).symm
    rw [h7]
    exact m1

set_option maxHeartbeats 4000000 in
set_option maxRecDepth 100000 in
theorem t29_b91true (w w9 : World) (ap3 : Option Addr) (zs : List Int) (i : Nat) (s1 : Str) (C : Con) (base B2 : Nat) (k : Sl) {u2 u3 u4 u9 u12 u13 u14 u15 u16 u17 u18 u19 u20 u21 u22 u23 u24 u25 u26 u27 u28 u29 u30 u31 u32 u33 u34 u35 u36 u37 u38 u39 u40 u41 u42 u43 u44 u45 u46 u47 u48 u49 u50 u51 u52 u53 u54 u55 u56 u57 u58 u59 u60 u61 u62 u63 u64 u65 u66 u67 u68 u69 u70 u71 u72 u73 u74 u75 u76 u77 u78 u79 u80 u81 u82 u83 u84 u85 u86 u87 u88 u89 u90 u91 u92 u93 u94 u95 u96 u97 u98 u99 u100 u101 u102 u103 u104 u105 u106 u107 u108 u109 u110 u111 u112 u113 u114 u115 u116 u117 u118 u119 u120 u121 u122 u123 u124 u125 u126 u127 u128 u129 u130 u131 u132 u133 u134 u135 u136 u137 u138 u139 u140 u141 u142 u143 u144 u145 u146 u147 u148 u149 u150 u151 u152 u153 u154 u155 u156 u157 u158 u159 u160 u161 u162 u163 u164 u165 u166 u167 u168 u169 u170 u171 u172 u173 u174 u175 u176 u177 u178 u179 u180 u181 u182 u183 u184 u185 u186 u187 u188 u189 u190 u191 u192 u193 u194 u195 u196 u197 u198 u199 u200 u201 u202 u203 u204 u205 u206 u207 u208 u209 u210 u211 u212 u213 u214 u215 u216 u217 u218 u219 u220 u221 u222 u223 u224 u225 u226 u227 u228 u229 u230 u231 u232 u233 u234 u235 u236 u237 u238 u239 u240 : Value}
    (hms : MS w ap3 zs s1 C base w.heap.size B2 (tN s1 i k) w9) (hk : w9.ownsRow 0 5 1 k.v k.n (bys (kN s1 C.kept))) (hsd : Sound s1) (hbr : s1.broken = false) (hi : i < zs.length) (hzl : zs.length ≤ 1048576) (hcn : s1.closers.n ≤ 10000)
    (hf : numc (Pl.bt zs i) = true → ¬ (s1.named = true ∧ s1.onPath = (s1.path.n : Int)) → s1.keepDepth = (s1.closers.n : Int) → 0 ≤ s1.keepFrom ∧ s1.keepFrom ≤ i)
    (h123 : ¬ Pl.bt zs i = 123) (h91 : Pl.bt zs i = 91) (hfull : ¬ s1.closers.n = 10000) (hen : entN s1 (Pl.bt zs i) = true) (hnn : numc (Pl.bt zs i) = false) :
    Code.wp Try.prog ((Try.f8.body.bind (fromRegion 29)).getD .skip) (bodyPost Try.prog Try.f8 fun e w' => e = .returned (.bool true) ∧ Below w.heap.size w w') ⟨#[.slice ap3 zs.length zs.length, .int .i64 ((i : Nat) : Int), u2, u3, u4, .pointer (some ⟨w.heap.size, 0, none⟩), .bool false, .int .u8 (Pl.bt zs i), .bool (numc (Pl.bt zs i)), u9, .pointer (some ⟨B2, 0, none⟩), .bool (entN s1 (Pl.bt zs i)), u12, u13, u14, u15, u16, u17, u18, u19, u20, u21, u22, u23, u24, u25, u26, u27, u28, u29, u30, u31, u32, u33, u34, u35, u36, u37, u38, u39, u40, u41, u42, u43, u44, u45, u46, u47, u48, u49, u50, u51, u52, u53, u54, u55, u56, u57, u58, u59, u60, u61, u62, u63, u64, u65, u66, u67, u68, u69, u70, u71, u72, u73, u74, u75, u76, u77, u78, u79, u80, u81, u82, u83, u84, u85, u86, u87, u88, u89, u90, u91, u92, u93, u94, u95, u96, u97, u98, u99, u100, u101, u102, u103, u104, u105, u106, u107, u108, u109, u110, u111, u112, u113, u114, u115, u116, u117, u118, u119, u120, u121, u122, u123, u124, u125, u126, u127, u128, u129, u130, u131, u132, u133, u134, u135, u136, u137, u138, u139, u140, u141, u142, u143, u144, u145, u146, u147, u148, u149, u150, u151, u152, u153, u154, u155, u156, u157, u158, u159, u160, u161, u162, u163, u164, u165, u166, u167, u168, u169, u170, u171, u172, u173, u174, u175, u176, u177, u178, u179, u180, u181, u182, u183, u184, u185, u186, u187, u188, u189, u190, u191, u192, u193, u194, u195, u196, u197, u198, u199, u200, u201, u202, u203, u204, u205, u206, u207, u208, u209, u210, u211, u212, u213, u214, u215, u216, u217, u218, u219, u220, u221, u222, u223, u224, u225, u226, u227, u228, u229, u230, u231, u232, u233, u234, u235, u236, u237, u238, u239, u240], []⟩ w9 := by
  have hn' : numc (Pl.bt zs i) = true → Scan (phText (phc (Pl.bt zs i)) ++ zs.drop (i + 1)) (phText (phc (Pl.bt zs i))).length (zs.length - (i + 1)) 0 false false 0 := fun h => absurd h (by rw [hnn]; decide)
  have hO : table s1 C zs i 0 false false 0 = ⟨((i + 1 : Nat) : Int), false, fun k cl => { tN s1 i k with closers := cl, state := 4, onPath := bump s1 true }, kN s1 C.kept, C.closers ++ [93]⟩ := by
    unfold table; rw [if_pos (Or.inr h91), if_neg hfull, hen, if_neg h123, if_neg h123]
  conv => arg 2; whnf
  obtain ⟨O, hOO⟩ : ∃ O, O = table s1 C zs i 0 false false 0 := ⟨_, rfl⟩
  have HO : Hid (O = _) := hOO.trans hO
  have HO0 : Hid (O = table s1 C zs i 0 false false 0) := hOO
  clear hO hOO
  have HM9 : Hid (MS w ap3 zs s1 C base w.heap.size B2 (tN s1 i k) w9) := hms
  have HK9 : Hid (w9.ownsRow 0 5 1 k.v k.n (bys (kN s1 C.kept))) := hk
  have HC9 : Hid (w9.ownsRow 0 5 1 s1.closers.v s1.closers.n (bys C.closers)) := own_base hms.owned.closers (Nat.zero_le _)
  have HSd : Hid (Sound s1) := hsd
  have HBr : Hid (s1.broken = false) := hbr
  have HF : Hid (numc (Pl.bt zs i) = true → ¬ (s1.named = true ∧ s1.onPath = (s1.path.n : Int)) → s1.keepDepth = (s1.closers.n : Int) → 0 ≤ s1.keepFrom ∧ s1.keepFrom ≤ i) := hf
  have HN : Hid (numc (Pl.bt zs i) = true → Scan (phText (phc (Pl.bt zs i)) ++ zs.drop (i + 1)) (phText (phc (Pl.bt zs i))).length (zs.length - (i + 1)) 0 false false 0) := hn'
  clear hms hk hsd hbr hf hn'
  have d2 : w9.cell? ⟨w.heap.size, 2, none⟩ = some s1.closers.v := HM9.out.one.cell 2
  have hlt2 := HM9.out.ne
  have hne : w.heap.size ≠ B2 := by omega
  have hge : ¬ (10000 : Int) ≤ (s1.closers.n : Int) := by omega
  rw [hen]
  rw [h91]
  clear h123 h91 hfull hnn hen
  go_upto_if 126 with fail
  go_cut [12, 13] (fun t u wx => t = .int .i64 O.ret ∧ u = .bool O.bad ∧ ∃ k cl : Sl, MS w ap3 zs s1 C base w.heap.size B2 (O.S k cl) wx ∧ wx.ownsRow 0 5 1 k.v k.n (bys O.kc) ∧ wx.ownsRow 0 5 1 cl.v cl.n (bys O.cc))
  case rest =>
    obtain ⟨rfl, rfl, k2, cl, h1, h2, h3⟩ := hcut
    rw [HO0.out] at h1 h2 h3
    go_step
    exact t76 w _ ap3 zs i s1 C base B2 0 false false 0 _ _ k2 cl (by rw [HO0.out]) (by rw [HO0.out]) h1 h2 h3 HSd.out HBr.out hi hzl hcn HF.out HN.out
  case first =>
    have x4 : w9.cell? ⟨B2, 4, none⟩ = some (.int .u8 (tN s1 i k).state) := HM9.out.two.cell 4
    have y4 := HM9.out.two.free 4
    go_upto_region 40 with fail
    obtain ⟨W2, hW2⟩ : ∃ W, W = (w9.setCell ⟨B2, 4, none⟩ (.int .u8 1)).setCell ⟨B2, 4, none⟩ (.int .u8 4) := ⟨_, rfl⟩
    rw [← hW2]
    have HM2 : Hid (MS w ap3 zs s1 C base w.heap.size B2 { tN s1 i k with state := 4 } W2 ∧ W2.ownsRow 0 5 1 k.v k.n (bys (kN s1 C.kept))) := by
      rw [hW2]; exact HM9.out.fin (Nat.le_refl _) HK9.out (((Only.refl B2 w9).setCell 4 _).setCell 4 _) ((HM9.out.two.fState 1).fState 4)
    have x2 : W2.cell? ⟨w.heap.size, 2, none⟩ = some s1.closers.v := HM2.out.1.one.cell 2
    clear hW2 x4 y4 d2
    go_wp2_with fail
    have b3 : Below W2.heap.size W2 (W2.alloc (.cells #[.int .u8 93] 5)) := (Below.refl _ _).alloc (Nat.le_refl _) _
    have h1c : Rd (W2.alloc (.cells #[.int .u8 93] 5)) (some ⟨W2.heap.size, 0, none⟩) [93] :=
      rd_of_owns (World.ownsRow_lit (base := 0) (e := 5) (size := 1) W2 #[Value.int IntKind.u8 93] 1 (Nat.zero_le _) (by decide) rfl)
    refine (concat_any _ _ s1.closers.n 1 _ _ C.closers [93] _ (rd_below HM2.out.1.owned.reads.closers b3) h1c HM2.out.1.owned.reads.closersN rfl (by have := HSd.out.closersL; omega)).mono ?_
    rintro e w4 ⟨a4, rfl, h4, b4⟩
    have b34 : Below W2.heap.size W2 w4 := b3.trans' b4
    have HM4 : Hid (MS w ap3 zs s1 C base w.heap.size B2 { tN s1 i k with state := 4 } w4) := HM2.out.1.call (Nat.le_refl _) b34
    have HK4 : Hid (w4.ownsRow 0 5 1 k.v k.n (bys (kN s1 C.kept))) := owns_below HM2.out.2 b34
    have HC4 : Hid (w4.ownsRow 0 5 1 (Sl.v ⟨a4, s1.closers.n + 1, s1.closers.n + 1⟩) (s1.closers.n + 1) (bys (C.closers ++ [93]))) := own_base h4 (Nat.zero_le _)
    have z2 : w4.cell? ⟨B2, 2, none⟩ = some (tN s1 i k).closers.v := HM4.out.two.cell 2
    have v2 := HM4.out.two.free 2
    have z3 : w4.cell? ⟨B2, 3, none⟩ = some (.int .i64 (tN s1 i k).onPath) := HM4.out.two.cell 3
    have v3 := HM4.out.two.free 3
    have q3 : w4.cell? ⟨w.heap.size, 3, none⟩ = some (.int .i64 s1.onPath) := HM4.out.one.cell 3
    clear b3 h1c h4 b4 b34 x2 HM2
    go_wp2_with fail
    go_meet
    refine ⟨by rw [HO.out]; rfl, by rw [HO.out], k, ⟨a4, s1.closers.n + 1, s1.closers.n + 1⟩, ?_⟩
    rw [HO.out]
    have hO := ((Only.refl B2 w4).setCell 2 (Sl.v ⟨a4, s1.closers.n + 1, s1.closers.n + 1⟩)).setCell 3 (.int .i64 (wrap64 (s1.onPath + 1)))
    obtain ⟨m1, m2⟩ := HM4.out.fin (Nat.le_refl _) HK4.out hO ((HM4.out.two.fClosers ⟨a4, s1.closers.n + 1, s1.closers.n + 1⟩).fOnPath (wrap64 (s1.onPath + 1)))
    exact ⟨m1, m2, own_onlyB HC4.out HM4.out.two (by decide) hO⟩

set_option maxHeartbeats 4000000 in
set_option maxRecDepth 100000 in
theorem t29_b91false (w w9 : World) (ap3 : Option Addr) (zs : List Int) (i : Nat) (s1 : Str) (C : Con) (base B2 : Nat) (k : Sl) {u2 u3 u4 u9 u12 u13 u14 u15 u16 u17 u18 u19 u20 u21 u22 u23 u24 u25 u26 u27 u28 u29 u30 u31 u32 u33 u34 u35 u36 u37 u38 u39 u40 u41 u42 u43 u44 u45 u46 u47 u48 u49 u50 u51 u52 u53 u54 u55 u56 u57 u58 u59 u60 u61 u62 u63 u64 u65 u66 u67 u68 u69 u70 u71 u72 u73 u74 u75 u76 u77 u78 u79 u80 u81 u82 u83 u84 u85 u86 u87 u88 u89 u90 u91 u92 u93 u94 u95 u96 u97 u98 u99 u100 u101 u102 u103 u104 u105 u106 u107 u108 u109 u110 u111 u112 u113 u114 u115 u116 u117 u118 u119 u120 u121 u122 u123 u124 u125 u126 u127 u128 u129 u130 u131 u132 u133 u134 u135 u136 u137 u138 u139 u140 u141 u142 u143 u144 u145 u146 u147 u148 u149 u150 u151 u152 u153 u154 u155 u156 u157 u158 u159 u160 u161 u162 u163 u164 u165 u166 u167 u168 u169 u170 u171 u172 u173 u174 u175 u176 u177 u178 u179 u180 u181 u182 u183 u184 u185 u186 u187 u188 u189 u190 u191 u192 u193 u194 u195 u196 u197 u198 u199 u200 u201 u202 u203 u204 u205 u206 u207 u208 u209 u210 u211 u212 u213 u214 u215 u216 u217 u218 u219 u220 u221 u222 u223 u224 u225 u226 u227 u228 u229 u230 u231 u232 u233 u234 u235 u236 u237 u238 u239 u240 : Value}
    (hms : MS w ap3 zs s1 C base w.heap.size B2 (tN s1 i k) w9) (hk : w9.ownsRow 0 5 1 k.v k.n (bys (kN s1 C.kept))) (hsd : Sound s1) (hbr : s1.broken = false) (hi : i < zs.length) (hzl : zs.length ≤ 1048576) (hcn : s1.closers.n ≤ 10000)
    (hf : numc (Pl.bt zs i) = true → ¬ (s1.named = true ∧ s1.onPath = (s1.path.n : Int)) → s1.keepDepth = (s1.closers.n : Int) → 0 ≤ s1.keepFrom ∧ s1.keepFrom ≤ i)
    (h123 : ¬ Pl.bt zs i = 123) (h91 : Pl.bt zs i = 91) (hfull : ¬ s1.closers.n = 10000) (hen : entN s1 (Pl.bt zs i) = false) (hnn : numc (Pl.bt zs i) = false) :
    Code.wp Try.prog ((Try.f8.body.bind (fromRegion 29)).getD .skip) (bodyPost Try.prog Try.f8 fun e w' => e = .returned (.bool true) ∧ Below w.heap.size w w') ⟨#[.slice ap3 zs.length zs.length, .int .i64 ((i : Nat) : Int), u2, u3, u4, .pointer (some ⟨w.heap.size, 0, none⟩), .bool false, .int .u8 (Pl.bt zs i), .bool (numc (Pl.bt zs i)), u9, .pointer (some ⟨B2, 0, none⟩), .bool (entN s1 (Pl.bt zs i)), u12, u13, u14, u15, u16, u17, u18, u19, u20, u21, u22, u23, u24, u25, u26, u27, u28, u29, u30, u31, u32, u33, u34, u35, u36, u37, u38, u39, u40, u41, u42, u43, u44, u45, u46, u47, u48, u49, u50, u51, u52, u53, u54, u55, u56, u57, u58, u59, u60, u61, u62, u63, u64, u65, u66, u67, u68, u69, u70, u71, u72, u73, u74, u75, u76, u77, u78, u79, u80, u81, u82, u83, u84, u85, u86, u87, u88, u89, u90, u91, u92, u93, u94, u95, u96, u97, u98, u99, u100, u101, u102, u103, u104, u105, u106, u107, u108, u109, u110, u111, u112, u113, u114, u115, u116, u117, u118, u119, u120, u121, u122, u123, u124, u125, u126, u127, u128, u129, u130, u131, u132, u133, u134, u135, u136, u137, u138, u139, u140, u141, u142, u143, u144, u145, u146, u147, u148, u149, u150, u151, u152, u153, u154, u155, u156, u157, u158, u159, u160, u161, u162, u163, u164, u165, u166, u167, u168, u169, u170, u171, u172, u173, u174, u175, u176, u177, u178, u179, u180, u181, u182, u183, u184, u185, u186, u187, u188, u189, u190, u191, u192, u193, u194, u195, u196, u197, u198, u199, u200, u201, u202, u203, u204, u205, u206, u207, u208, u209, u210, u211, u212, u213, u214, u215, u216, u217, u218, u219, u220, u221, u222, u223, u224, u225, u226, u227, u228, u229, u230, u231, u232, u233, u234, u235, u236, u237, u238, u239, u240], []⟩ w9 := by
  have hn' : numc (Pl.bt zs i) = true → Scan (phText (phc (Pl.bt zs i)) ++ zs.drop (i + 1)) (phText (phc (Pl.bt zs i))).length (zs.length - (i + 1)) 0 false false 0 := fun h => absurd h (by rw [hnn]; decide)
  have hO : table s1 C zs i 0 false false 0 = ⟨((i + 1 : Nat) : Int), false, fun k cl => { tN s1 i k with closers := cl, state := 4, onPath := bump s1 false }, kN s1 C.kept, C.closers ++ [93]⟩ := by
    unfold table; rw [if_pos (Or.inr h91), if_neg hfull, hen, if_neg h123, if_neg h123]
  conv => arg 2; whnf
  obtain ⟨O, hOO⟩ : ∃ O, O = table s1 C zs i 0 false false 0 := ⟨_, rfl⟩
  have HO : Hid (O = _) := hOO.trans hO
  have HO0 : Hid (O = table s1 C zs i 0 false false 0) := hOO
  clear hO hOO
  have HM9 : Hid (MS w ap3 zs s1 C base w.heap.size B2 (tN s1 i k) w9) := hms
  have HK9 : Hid (w9.ownsRow 0 5 1 k.v k.n (bys (kN s1 C.kept))) := hk
  have HC9 : Hid (w9.ownsRow 0 5 1 s1.closers.v s1.closers.n (bys C.closers)) := own_base hms.owned.closers (Nat.zero_le _)
  have HSd : Hid (Sound s1) := hsd
  have HBr : Hid (s1.broken = false) := hbr
  have HF : Hid (numc (Pl.bt zs i) = true → ¬ (s1.named = true ∧ s1.onPath = (s1.path.n : Int)) → s1.keepDepth = (s1.closers.n : Int) → 0 ≤ s1.keepFrom ∧ s1.keepFrom ≤ i) := hf
  have HN : Hid (numc (Pl.bt zs i) = true → Scan (phText (phc (Pl.bt zs i)) ++ zs.drop (i + 1)) (phText (phc (Pl.bt zs i))).length (zs.length - (i + 1)) 0 false false 0) := hn'
  clear hms hk hsd hbr hf hn'
  have d2 : w9.cell? ⟨w.heap.size, 2, none⟩ = some s1.closers.v := HM9.out.one.cell 2
  have hlt2 := HM9.out.ne
  have hne : w.heap.size ≠ B2 := by omega
  have hge : ¬ (10000 : Int) ≤ (s1.closers.n : Int) := by omega
  rw [hen]
  rw [h91]
  clear h123 h91 hfull hnn hen
  go_upto_if 126 with fail
  go_cut [12, 13] (fun t u wx => t = .int .i64 O.ret ∧ u = .bool O.bad ∧ ∃ k cl : Sl, MS w ap3 zs s1 C base w.heap.size B2 (O.S k cl) wx ∧ wx.ownsRow 0 5 1 k.v k.n (bys O.kc) ∧ wx.ownsRow 0 5 1 cl.v cl.n (bys O.cc))
  case rest =>
    obtain ⟨rfl, rfl, k2, cl, h1, h2, h3⟩ := hcut
    rw [HO0.out] at h1 h2 h3
    go_step
    exact t76 w _ ap3 zs i s1 C base B2 0 false false 0 _ _ k2 cl (by rw [HO0.out]) (by rw [HO0.out]) h1 h2 h3 HSd.out HBr.out hi hzl hcn HF.out HN.out
  case first =>
    have x4 : w9.cell? ⟨B2, 4, none⟩ = some (.int .u8 (tN s1 i k).state) := HM9.out.two.cell 4
    have y4 := HM9.out.two.free 4
    go_upto_region 40 with fail
    obtain ⟨W2, hW2⟩ : ∃ W, W = (w9.setCell ⟨B2, 4, none⟩ (.int .u8 1)).setCell ⟨B2, 4, none⟩ (.int .u8 4) := ⟨_, rfl⟩
    rw [← hW2]
    have HM2 : Hid (MS w ap3 zs s1 C base w.heap.size B2 { tN s1 i k with state := 4 } W2 ∧ W2.ownsRow 0 5 1 k.v k.n (bys (kN s1 C.kept))) := by
      rw [hW2]; exact HM9.out.fin (Nat.le_refl _) HK9.out (((Only.refl B2 w9).setCell 4 _).setCell 4 _) ((HM9.out.two.fState 1).fState 4)
    have x2 : W2.cell? ⟨w.heap.size, 2, none⟩ = some s1.closers.v := HM2.out.1.one.cell 2
    clear hW2 x4 y4 d2
    go_wp2_with fail
    have b3 : Below W2.heap.size W2 (W2.alloc (.cells #[.int .u8 93] 5)) := (Below.refl _ _).alloc (Nat.le_refl _) _
    have h1c : Rd (W2.alloc (.cells #[.int .u8 93] 5)) (some ⟨W2.heap.size, 0, none⟩) [93] :=
      rd_of_owns (World.ownsRow_lit (base := 0) (e := 5) (size := 1) W2 #[Value.int IntKind.u8 93] 1 (Nat.zero_le _) (by decide) rfl)
    refine (concat_any _ _ s1.closers.n 1 _ _ C.closers [93] _ (rd_below HM2.out.1.owned.reads.closers b3) h1c HM2.out.1.owned.reads.closersN rfl (by have := HSd.out.closersL; omega)).mono ?_
    rintro e w4 ⟨a4, rfl, h4, b4⟩
    have b34 : Below W2.heap.size W2 w4 := b3.trans' b4
    have HM4 : Hid (MS w ap3 zs s1 C base w.heap.size B2 { tN s1 i k with state := 4 } w4) := HM2.out.1.call (Nat.le_refl _) b34
    have HK4 : Hid (w4.ownsRow 0 5 1 k.v k.n (bys (kN s1 C.kept))) := owns_below HM2.out.2 b34
    have HC4 : Hid (w4.ownsRow 0 5 1 (Sl.v ⟨a4, s1.closers.n + 1, s1.closers.n + 1⟩) (s1.closers.n + 1) (bys (C.closers ++ [93]))) := own_base h4 (Nat.zero_le _)
    have z2 : w4.cell? ⟨B2, 2, none⟩ = some (tN s1 i k).closers.v := HM4.out.two.cell 2
    have v2 := HM4.out.two.free 2
    have z3 : w4.cell? ⟨B2, 3, none⟩ = some (.int .i64 (tN s1 i k).onPath) := HM4.out.two.cell 3
    have v3 := HM4.out.two.free 3
    have q3 : w4.cell? ⟨w.heap.size, 3, none⟩ = some (.int .i64 s1.onPath) := HM4.out.one.cell 3
    clear b3 h1c h4 b4 b34 x2 HM2
    go_wp2_with fail
    go_meet
    refine ⟨by rw [HO.out]; rfl, by rw [HO.out], k, ⟨a4, s1.closers.n + 1, s1.closers.n + 1⟩, ?_⟩
    rw [HO.out]
    have hO := (Only.refl B2 w4).setCell 2 (Sl.v ⟨a4, s1.closers.n + 1, s1.closers.n + 1⟩)
    obtain ⟨m1, m2⟩ := HM4.out.fin (Nat.le_refl _) HK4.out hO (HM4.out.two.fClosers ⟨a4, s1.closers.n + 1, s1.closers.n + 1⟩)
    refine ⟨?_, m2, own_onlyB HC4.out HM4.out.two (by decide) hO⟩
    show MS w ap3 zs s1 C base w.heap.size B2 { tN s1 i k with closers := ⟨a4, s1.closers.n + 1, s1.closers.n + 1⟩, state := 4, onPath := bump s1 false } _
    have h7 : bump s1 false = (tN s1 i k).onPath := (tN_onPath s1 (i : Int) k).symm
    rw [h7]
    exact m1
end Go.Proofs.Qxb6602575a
