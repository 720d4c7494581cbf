import Derived.Test.Qxb6602575aW37
import Derived.Test.Qxb6602575aW19
import Derived.Test.Qxb6602575aW20
namespace Go.Proofs.Qxb6602575a
open Go.RowKit
set_option linter.unusedVariables false

def keepB (s : Str) : Bool := s.named && (s.onPath == (s.path.n : Int))
theorem keepB_no {s : Str} (h : keepB s = true) : ¬ ¬ (s.named = true ∧ s.onPath = (s.path.n : Int)) := by
  unfold keepB at h
  rw [Bool.and_eq_true, beq_iff_eq] at h
  exact fun hh => hh h

theorem t16n (w w2 : World) (ap : Option Addr) (cp : Nat) (zs : List Int) (i : Nat) (s : Str) (C : Con) {nu : Bool} {u2 u3 u4 u9 u10 u11 u12 u13 u14 u15 u16 u17 u18 u19 u20 u21 u22 u23 u24 u25 u26 u27 u28 u29 u30 u31 u32 u33 u34 u35 u36 u37 u38 u39 u40 u41 u42 u43 u44 u45 u46 u47 u48 u49 u50 u51 u52 u53 u54 u55 u56 u57 u58 u59 u60 u61 u62 u63 u64 u65 u66 u67 u68 u69 u70 u71 u72 u73 u74 u75 u76 u77 u78 u79 u80 u81 u82 u83 u84 u85 u86 u87 u88 u89 u90 u91 u92 u93 u94 u95 u96 u97 u98 u99 u100 u101 u102 u103 u104 u105 u106 u107 u108 u109 u110 u111 u112 u113 u114 u115 u116 u117 u118 u119 u120 u121 u122 u123 u124 u125 u126 u127 u128 u129 u130 u131 u132 u133 u134 u135 u136 u137 u138 u139 u140 u141 u142 u143 u144 u145 u146 u147 u148 u149 u150 u151 u152 u153 u154 u155 u156 u157 u158 u159 u160 u161 u162 u163 u164 u165 u166 u167 u168 u169 u170 u171 u172 u173 u174 u175 u176 u177 u178 u179 u180 u181 u182 u183 u184 u185 u186 u187 u188 u189 u190 u191 u192 u193 u194 u195 u196 u197 u198 u199 u200 u201 u202 u203 u204 u205 u206 u207 u208 u209 u210 u211 u212 u213 u214 u215 u216 u217 u218 u219 u220 u221 u222 u223 u224 u225 u226 u227 u228 u229 u230 u231 u232 u233 u234 u235 u236 u237 u238 u239 u240 : Value}
    (hp : Rd w2 ap zs) (hpn : ap = none → cp = 0) (hB : Blk w2 w.heap.size 30 s.cells30) (hbw : Below w.heap.size w w2) (hr : Reads w2 s C) (hsd : Sound s) (hbr : s.broken = false) (hi : i < zs.length) (hzl : zs.length ≤ 1048576) (hcn : s.closers.n ≤ 10000)
    (hf : numc (Pl.bt zs i) = true → ¬ (s.named = true ∧ s.onPath = (s.path.n : Int)) → s.keepDepth = (s.closers.n : Int) → 0 ≤ s.keepFrom ∧ s.keepFrom ≤ i) (hnu : nu = numc (Pl.bt zs i)) :
    Code.wp Try.prog ((Try.f8.body.bind (fromRegion 16)).getD .skip) (bodyPost Try.prog Try.f8 fun e w' => e = .returned (.bool true) ∧ Below w.heap.size w w') ⟨#[.slice ap zs.length cp, .int .i64 ((i : Nat) : Int), u2, u3, u4, .pointer (some ⟨w.heap.size, 0, none⟩), .bool false, .int .u8 (Pl.bt zs i), .bool nu, u9, u10, u11, u12, u13, u14, u15, u16, u17, u18, u19, u20, u21, u22, u23, u24, u25, u26, u27, u28, u29, u30, u31, u32, u33, u34, u35, u36, u37, u38, u39, u40, u41, u42, u43, u44, u45, u46, u47, u48, u49, u50, u51, u52, u53, u54, u55, u56, u57, u58, u59, u60, u61, u62, u63, u64, u65, u66, u67, u68, u69, u70, u71, u72, u73, u74, u75, u76, u77, u78, u79, u80, u81, u82, u83, u84, u85, u86, u87, u88, u89, u90, u91, u92, u93, u94, u95, u96, u97, u98, u99, u100, u101, u102, u103, u104, u105, u106, u107, u108, u109, u110, u111, u112, u113, u114, u115, u116, u117, u118, u119, u120, u121, u122, u123, u124, u125, u126, u127, u128, u129, u130, u131, u132, u133, u134, u135, u136, u137, u138, u139, u140, u141, u142, u143, u144, u145, u146, u147, u148, u149, u150, u151, u152, u153, u154, u155, u156, u157, u158, u159, u160, u161, u162, u163, u164, u165, u166, u167, u168, u169, u170, u171, u172, u173, u174, u175, u176, u177, u178, u179, u180, u181, u182, u183, u184, u185, u186, u187, u188, u189, u190, u191, u192, u193, u194, u195, u196, u197, u198, u199, u200, u201, u202, u203, u204, u205, u206, u207, u208, u209, u210, u211, u212, u213, u214, u215, u216, u217, u218, u219, u220, u221, u222, u223, u224, u225, u226, u227, u228, u229, u230, u231, u232, u233, u234, u235, u236, u237, u238, u239, u240], []⟩ w2 := by
  subst hnu
  exact t16 w w2 ap cp zs i s C hp hpn hB hbw hr hsd hbr hi hzl hcn hf

set_option maxHeartbeats 4000000 in
set_option maxRecDepth 100000 in
theorem t14_a (w w2 : World) (ap : Option Addr) (cp : Nat) (zs : List Int) (i : Nat) (s : Str) (C : Con) {u2 u3 u4 u10 u11 u12 u13 u14 u15 u16 u17 u18 u19 u20 u21 u22 u23 u24 u25 u26 u27 u28 u29 u30 u31 u32 u33 u34 u35 u36 u37 u38 u39 u40 u41 u42 u43 u44 u45 u46 u47 u48 u49 u50 u51 u52 u53 u54 u55 u56 u57 u58 u59 u60 u61 u62 u63 u64 u65 u66 u67 u68 u69 u70 u71 u72 u73 u74 u75 u76 u77 u78 u79 u80 u81 u82 u83 u84 u85 u86 u87 u88 u89 u90 u91 u92 u93 u94 u95 u96 u97 u98 u99 u100 u101 u102 u103 u104 u105 u106 u107 u108 u109 u110 u111 u112 u113 u114 u115 u116 u117 u118 u119 u120 u121 u122 u123 u124 u125 u126 u127 u128 u129 u130 u131 u132 u133 u134 u135 u136 u137 u138 u139 u140 u141 u142 u143 u144 u145 u146 u147 u148 u149 u150 u151 u152 u153 u154 u155 u156 u157 u158 u159 u160 u161 u162 u163 u164 u165 u166 u167 u168 u169 u170 u171 u172 u173 u174 u175 u176 u177 u178 u179 u180 u181 u182 u183 u184 u185 u186 u187 u188 u189 u190 u191 u192 u193 u194 u195 u196 u197 u198 u199 u200 u201 u202 u203 u204 u205 u206 u207 u208 u209 u210 u211 u212 u213 u214 u215 u216 u217 u218 u219 u220 u221 u222 u223 u224 u225 u226 u227 u228 u229 u230 u231 u232 u233 u234 u235 u236 u237 u238 u239 u240 : Value}
    (hp : Rd w2 ap zs) (hpn : ap = none → cp = 0) (hB : Blk w2 w.heap.size 30 s.cells30) (hbw : Below w.heap.size w w2) (hr : Reads w2 s C) (hsd : Sound s) (hbr : s.broken = false) (hi : i < zs.length) (hzl : zs.length ≤ 1048576) (hcn : s.closers.n ≤ 10000)
    (hn8 : numc (Pl.bt zs i) = false) :
    Code.wp Try.prog ((Try.f8.body.bind (fromRegion 14)).getD .skip) (bodyPost Try.prog Try.f8 fun e w' => e = .returned (.bool true) ∧ Below w.heap.size w w') ⟨#[.slice ap zs.length cp, .int .i64 ((i : Nat) : Int), u2, u3, u4, .pointer (some ⟨w.heap.size, 0, none⟩), .bool false, .int .u8 (Pl.bt zs i), .bool (numc (Pl.bt zs i)), .bool (keepB s), u10, u11, u12, u13, u14, u15, u16, u17, u18, u19, u20, u21, u22, u23, u24, u25, u26, u27, u28, u29, u30, u31, u32, u33, u34, u35, u36, u37, u38, u39, u40, u41, u42, u43, u44, u45, u46, u47, u48, u49, u50, u51, u52, u53, u54, u55, u56, u57, u58, u59, u60, u61, u62, u63, u64, u65, u66, u67, u68, u69, u70, u71, u72, u73, u74, u75, u76, u77, u78, u79, u80, u81, u82, u83, u84, u85, u86, u87, u88, u89, u90, u91, u92, u93, u94, u95, u96, u97, u98, u99, u100, u101, u102, u103, u104, u105, u106, u107, u108, u109, u110, u111, u112, u113, u114, u115, u116, u117, u118, u119, u120, u121, u122, u123, u124, u125, u126, u127, u128, u129, u130, u131, u132, u133, u134, u135, u136, u137, u138, u139, u140, u141, u142, u143, u144, u145, u146, u147, u148, u149, u150, u151, u152, u153, u154, u155, u156, u157, u158, u159, u160, u161, u162, u163, u164, u165, u166, u167, u168, u169, u170, u171, u172, u173, u174, u175, u176, u177, u178, u179, u180, u181, u182, u183, u184, u185, u186, u187, u188, u189, u190, u191, u192, u193, u194, u195, u196, u197, u198, u199, u200, u201, u202, u203, u204, u205, u206, u207, u208, u209, u210, u211, u212, u213, u214, u215, u216, u217, u218, u219, u220, u221, u222, u223, u224, u225, u226, u227, u228, u229, u230, u231, u232, u233, u234, u235, u236, u237, u238, u239, u240], []⟩ w2 := by
  conv => arg 2; whnf
  have c15 : w2.cell? ⟨w.heap.size, 15, none⟩ = some (.int .i64 s.keepDepth) := hB.cell 15
  have c16 : w2.cell? ⟨w.heap.size, 16, none⟩ = some (.int .i64 s.keepFrom) := hB.cell 16
  have c2 : w2.cell? ⟨w.heap.size, 2, none⟩ = some s.closers.v := hB.cell 2
  have HALL : Hid (Rd w2 ap zs ∧ (ap = none → cp = 0) ∧ Blk w2 w.heap.size 30 s.cells30 ∧ Below w.heap.size w w2 ∧ Reads w2 s C ∧ Sound s ∧ s.broken = false) := ⟨hp, hpn, hB, hbw, hr, hsd, hbr⟩
  clear hp hpn hB hbw hr hsd hbr
  obtain ⟨nu, hnu⟩ : ∃ x, x = numc (Pl.bt zs i) := ⟨_, rfl⟩
  have H8 : Hid (numc (Pl.bt zs i) = nu) := hnu.symm
  obtain rfl : nu = false := by rw [hnu]; exact hn8
  rw [hn8]
  clear hnu hn8
  generalize keepB s = kp
  go_upto_if 93 with fail
  go_cut [6] (fun t wx => t = .bool false ∧ w2 = wx)
  case first =>
    go_wp2_with fail
    go_meet
    exact ⟨rfl, rfl⟩
  case rest =>
  obtain ⟨rfl, rfl⟩ := hcut
  go_step
  exact t16n w w2 ap cp zs i s C HALL.out.1 HALL.out.2.1 HALL.out.2.2.1 HALL.out.2.2.2.1 HALL.out.2.2.2.2.1 HALL.out.2.2.2.2.2.1 HALL.out.2.2.2.2.2.2 hi hzl hcn (fun h => by rw [H8.out] at h; cases h) H8.out.symm

set_option maxHeartbeats 4000000 in
set_option maxRecDepth 100000 in
theorem t14_b (w w2 : World) (ap : Option Addr) (cp : Nat) (zs : List Int) (i : Nat) (s : Str) (C : Con) {u2 u3 u4 u10 u11 u12 u13 u14 u15 u16 u17 u18 u19 u20 u21 u22 u23 u24 u25 u26 u27 u28 u29 u30 u31 u32 u33 u34 u35 u36 u37 u38 u39 u40 u41 u42 u43 u44 u45 u46 u47 u48 u49 u50 u51 u52 u53 u54 u55 u56 u57 u58 u59 u60 u61 u62 u63 u64 u65 u66 u67 u68 u69 u70 u71 u72 u73 u74 u75 u76 u77 u78 u79 u80 u81 u82 u83 u84 u85 u86 u87 u88 u89 u90 u91 u92 u93 u94 u95 u96 u97 u98 u99 u100 u101 u102 u103 u104 u105 u106 u107 u108 u109 u110 u111 u112 u113 u114 u115 u116 u117 u118 u119 u120 u121 u122 u123 u124 u125 u126 u127 u128 u129 u130 u131 u132 u133 u134 u135 u136 u137 u138 u139 u140 u141 u142 u143 u144 u145 u146 u147 u148 u149 u150 u151 u152 u153 u154 u155 u156 u157 u158 u159 u160 u161 u162 u163 u164 u165 u166 u167 u168 u169 u170 u171 u172 u173 u174 u175 u176 u177 u178 u179 u180 u181 u182 u183 u184 u185 u186 u187 u188 u189 u190 u191 u192 u193 u194 u195 u196 u197 u198 u199 u200 u201 u202 u203 u204 u205 u206 u207 u208 u209 u210 u211 u212 u213 u214 u215 u216 u217 u218 u219 u220 u221 u222 u223 u224 u225 u226 u227 u228 u229 u230 u231 u232 u233 u234 u235 u236 u237 u238 u239 u240 : Value}
    (hp : Rd w2 ap zs) (hpn : ap = none → cp = 0) (hB : Blk w2 w.heap.size 30 s.cells30) (hbw : Below w.heap.size w w2) (hr : Reads w2 s C) (hsd : Sound s) (hbr : s.broken = false) (hi : i < zs.length) (hzl : zs.length ≤ 1048576) (hcn : s.closers.n ≤ 10000)
    (hn8 : numc (Pl.bt zs i) = true) (hk9 : keepB s = true) :
    Code.wp Try.prog ((Try.f8.body.bind (fromRegion 14)).getD .skip) (bodyPost Try.prog Try.f8 fun e w' => e = .returned (.bool true) ∧ Below w.heap.size w w') ⟨#[.slice ap zs.length cp, .int .i64 ((i : Nat) : Int), u2, u3, u4, .pointer (some ⟨w.heap.size, 0, none⟩), .bool false, .int .u8 (Pl.bt zs i), .bool (numc (Pl.bt zs i)), .bool (keepB s), u10, u11, u12, u13, u14, u15, u16, u17, u18, u19, u20, u21, u22, u23, u24, u25, u26, u27, u28, u29, u30, u31, u32, u33, u34, u35, u36, u37, u38, u39, u40, u41, u42, u43, u44, u45, u46, u47, u48, u49, u50, u51, u52, u53, u54, u55, u56, u57, u58, u59, u60, u61, u62, u63, u64, u65, u66, u67, u68, u69, u70, u71, u72, u73, u74, u75, u76, u77, u78, u79, u80, u81, u82, u83, u84, u85, u86, u87, u88, u89, u90, u91, u92, u93, u94, u95, u96, u97, u98, u99, u100, u101, u102, u103, u104, u105, u106, u107, u108, u109, u110, u111, u112, u113, u114, u115, u116, u117, u118, u119, u120, u121, u122, u123, u124, u125, u126, u127, u128, u129, u130, u131, u132, u133, u134, u135, u136, u137, u138, u139, u140, u141, u142, u143, u144, u145, u146, u147, u148, u149, u150, u151, u152, u153, u154, u155, u156, u157, u158, u159, u160, u161, u162, u163, u164, u165, u166, u167, u168, u169, u170, u171, u172, u173, u174, u175, u176, u177, u178, u179, u180, u181, u182, u183, u184, u185, u186, u187, u188, u189, u190, u191, u192, u193, u194, u195, u196, u197, u198, u199, u200, u201, u202, u203, u204, u205, u206, u207, u208, u209, u210, u211, u212, u213, u214, u215, u216, u217, u218, u219, u220, u221, u222, u223, u224, u225, u226, u227, u228, u229, u230, u231, u232, u233, u234, u235, u236, u237, u238, u239, u240], []⟩ w2 := by
  conv => arg 2; whnf
  have c15 : w2.cell? ⟨w.heap.size, 15, none⟩ = some (.int .i64 s.keepDepth) := hB.cell 15
  have c16 : w2.cell? ⟨w.heap.size, 16, none⟩ = some (.int .i64 s.keepFrom) := hB.cell 16
  have c2 : w2.cell? ⟨w.heap.size, 2, none⟩ = some s.closers.v := hB.cell 2
  have HALL : Hid (Rd w2 ap zs ∧ (ap = none → cp = 0) ∧ Blk w2 w.heap.size 30 s.cells30 ∧ Below w.heap.size w w2 ∧ Reads w2 s C ∧ Sound s ∧ s.broken = false) := ⟨hp, hpn, hB, hbw, hr, hsd, hbr⟩
  clear hp hpn hB hbw hr hsd hbr
  obtain ⟨nu, hnu⟩ : ∃ x, x = numc (Pl.bt zs i) := ⟨_, rfl⟩
  have H8 : Hid (numc (Pl.bt zs i) = nu) := hnu.symm
  obtain rfl : nu = true := by rw [hnu]; exact hn8
  rw [hn8]
  clear hnu hn8
  have H9 : Hid (keepB s = true) := hk9
  rw [hk9]
  clear hk9
  go_upto_if 93 with fail
  go_cut [6] (fun t wx => t = .bool false ∧ w2 = wx)
  case first =>
    go_wp2_with fail
    go_meet
    exact ⟨rfl, rfl⟩
  case rest =>
  obtain ⟨rfl, rfl⟩ := hcut
  go_step
  exact t16n w w2 ap cp zs i s C HALL.out.1 HALL.out.2.1 HALL.out.2.2.1 HALL.out.2.2.2.1 HALL.out.2.2.2.2.1 HALL.out.2.2.2.2.2.1 HALL.out.2.2.2.2.2.2 hi hzl hcn (fun _ h => absurd h (keepB_no H9.out)) H8.out.symm

set_option maxHeartbeats 4000000 in
set_option maxRecDepth 100000 in
theorem t14_c (w w2 : World) (ap : Option Addr) (cp : Nat) (zs : List Int) (i : Nat) (s : Str) (C : Con) {u2 u3 u4 u10 u11 u12 u13 u14 u15 u16 u17 u18 u19 u20 u21 u22 u23 u24 u25 u26 u27 u28 u29 u30 u31 u32 u33 u34 u35 u36 u37 u38 u39 u40 u41 u42 u43 u44 u45 u46 u47 u48 u49 u50 u51 u52 u53 u54 u55 u56 u57 u58 u59 u60 u61 u62 u63 u64 u65 u66 u67 u68 u69 u70 u71 u72 u73 u74 u75 u76 u77 u78 u79 u80 u81 u82 u83 u84 u85 u86 u87 u88 u89 u90 u91 u92 u93 u94 u95 u96 u97 u98 u99 u100 u101 u102 u103 u104 u105 u106 u107 u108 u109 u110 u111 u112 u113 u114 u115 u116 u117 u118 u119 u120 u121 u122 u123 u124 u125 u126 u127 u128 u129 u130 u131 u132 u133 u134 u135 u136 u137 u138 u139 u140 u141 u142 u143 u144 u145 u146 u147 u148 u149 u150 u151 u152 u153 u154 u155 u156 u157 u158 u159 u160 u161 u162 u163 u164 u165 u166 u167 u168 u169 u170 u171 u172 u173 u174 u175 u176 u177 u178 u179 u180 u181 u182 u183 u184 u185 u186 u187 u188 u189 u190 u191 u192 u193 u194 u195 u196 u197 u198 u199 u200 u201 u202 u203 u204 u205 u206 u207 u208 u209 u210 u211 u212 u213 u214 u215 u216 u217 u218 u219 u220 u221 u222 u223 u224 u225 u226 u227 u228 u229 u230 u231 u232 u233 u234 u235 u236 u237 u238 u239 u240 : Value}
    (hp : Rd w2 ap zs) (hpn : ap = none → cp = 0) (hB : Blk w2 w.heap.size 30 s.cells30) (hbw : Below w.heap.size w w2) (hr : Reads w2 s C) (hsd : Sound s) (hbr : s.broken = false) (hi : i < zs.length) (hzl : zs.length ≤ 1048576) (hcn : s.closers.n ≤ 10000)
    (hn8 : numc (Pl.bt zs i) = true) (hk9 : keepB s = false) (hd : ¬ s.keepDepth = (s.closers.n : Int)) :
    Code.wp Try.prog ((Try.f8.body.bind (fromRegion 14)).getD .skip) (bodyPost Try.prog Try.f8 fun e w' => e = .returned (.bool true) ∧ Below w.heap.size w w') ⟨#[.slice ap zs.length cp, .int .i64 ((i : Nat) : Int), u2, u3, u4, .pointer (some ⟨w.heap.size, 0, none⟩), .bool false, .int .u8 (Pl.bt zs i), .bool (numc (Pl.bt zs i)), .bool (keepB s), u10, u11, u12, u13, u14, u15, u16, u17, u18, u19, u20, u21, u22, u23, u24, u25, u26, u27, u28, u29, u30, u31, u32, u33, u34, u35, u36, u37, u38, u39, u40, u41, u42, u43, u44, u45, u46, u47, u48, u49, u50, u51, u52, u53, u54, u55, u56, u57, u58, u59, u60, u61, u62, u63, u64, u65, u66, u67, u68, u69, u70, u71, u72, u73, u74, u75, u76, u77, u78, u79, u80, u81, u82, u83, u84, u85, u86, u87, u88, u89, u90, u91, u92, u93, u94, u95, u96, u97, u98, u99, u100, u101, u102, u103, u104, u105, u106, u107, u108, u109, u110, u111, u112, u113, u114, u115, u116, u117, u118, u119, u120, u121, u122, u123, u124, u125, u126, u127, u128, u129, u130, u131, u132, u133, u134, u135, u136, u137, u138, u139, u140, u141, u142, u143, u144, u145, u146, u147, u148, u149, u150, u151, u152, u153, u154, u155, u156, u157, u158, u159, u160, u161, u162, u163, u164, u165, u166, u167, u168, u169, u170, u171, u172, u173, u174, u175, u176, u177, u178, u179, u180, u181, u182, u183, u184, u185, u186, u187, u188, u189, u190, u191, u192, u193, u194, u195, u196, u197, u198, u199, u200, u201, u202, u203, u204, u205, u206, u207, u208, u209, u210, u211, u212, u213, u214, u215, u216, u217, u218, u219, u220, u221, u222, u223, u224, u225, u226, u227, u228, u229, u230, u231, u232, u233, u234, u235, u236, u237, u238, u239, u240], []⟩ w2 := by
  conv => arg 2; whnf
  have c15 : w2.cell? ⟨w.heap.size, 15, none⟩ = some (.int .i64 s.keepDepth) := hB.cell 15
  have c16 : w2.cell? ⟨w.heap.size, 16, none⟩ = some (.int .i64 s.keepFrom) := hB.cell 16
  have c2 : w2.cell? ⟨w.heap.size, 2, none⟩ = some s.closers.v := hB.cell 2
  have HALL : Hid (Rd w2 ap zs ∧ (ap = none → cp = 0) ∧ Blk w2 w.heap.size 30 s.cells30 ∧ Below w.heap.size w w2 ∧ Reads w2 s C ∧ Sound s ∧ s.broken = false) := ⟨hp, hpn, hB, hbw, hr, hsd, hbr⟩
  clear hp hpn hB hbw hr hsd hbr
  obtain ⟨nu, hnu⟩ : ∃ x, x = numc (Pl.bt zs i) := ⟨_, rfl⟩
  have H8 : Hid (numc (Pl.bt zs i) = nu) := hnu.symm
  obtain rfl : nu = true := by rw [hnu]; exact hn8
  rw [hn8]
  clear hnu hn8
  rw [hk9]
  have hkb : (s.keepDepth == (s.closers.n : Int)) = false := by rw [beq_eq_false_iff_ne]; exact hd
  have HD : Hid (¬ s.keepDepth = (s.closers.n : Int)) := hd
  clear hk9 hd
  go_upto_if 93 with fail
  go_cut [6] (fun t wx => t = .bool false ∧ w2 = wx)
  case first =>
    go_wp2_with fail
    go_meet
    exact ⟨rfl, rfl⟩
  case rest =>
  obtain ⟨rfl, rfl⟩ := hcut
  go_step
  exact t16n w w2 ap cp zs i s C HALL.out.1 HALL.out.2.1 HALL.out.2.2.1 HALL.out.2.2.2.1 HALL.out.2.2.2.2.1 HALL.out.2.2.2.2.2.1 HALL.out.2.2.2.2.2.2 hi hzl hcn (fun _ _ h => absurd h HD.out) H8.out.symm

set_option maxHeartbeats 4000000 in
set_option maxRecDepth 100000 in
theorem t14_d (w w2 : World) (ap : Option Addr) (cp : Nat) (zs : List Int) (i : Nat) (s : Str) (C : Con) {u2 u3 u4 u10 u11 u12 u13 u14 u15 u16 u17 u18 u19 u20 u21 u22 u23 u24 u25 u26 u27 u28 u29 u30 u31 u32 u33 u34 u35 u36 u37 u38 u39 u40 u41 u42 u43 u44 u45 u46 u47 u48 u49 u50 u51 u52 u53 u54 u55 u56 u57 u58 u59 u60 u61 u62 u63 u64 u65 u66 u67 u68 u69 u70 u71 u72 u73 u74 u75 u76 u77 u78 u79 u80 u81 u82 u83 u84 u85 u86 u87 u88 u89 u90 u91 u92 u93 u94 u95 u96 u97 u98 u99 u100 u101 u102 u103 u104 u105 u106 u107 u108 u109 u110 u111 u112 u113 u114 u115 u116 u117 u118 u119 u120 u121 u122 u123 u124 u125 u126 u127 u128 u129 u130 u131 u132 u133 u134 u135 u136 u137 u138 u139 u140 u141 u142 u143 u144 u145 u146 u147 u148 u149 u150 u151 u152 u153 u154 u155 u156 u157 u158 u159 u160 u161 u162 u163 u164 u165 u166 u167 u168 u169 u170 u171 u172 u173 u174 u175 u176 u177 u178 u179 u180 u181 u182 u183 u184 u185 u186 u187 u188 u189 u190 u191 u192 u193 u194 u195 u196 u197 u198 u199 u200 u201 u202 u203 u204 u205 u206 u207 u208 u209 u210 u211 u212 u213 u214 u215 u216 u217 u218 u219 u220 u221 u222 u223 u224 u225 u226 u227 u228 u229 u230 u231 u232 u233 u234 u235 u236 u237 u238 u239 u240 : Value}
    (hp : Rd w2 ap zs) (hpn : ap = none → cp = 0) (hB : Blk w2 w.heap.size 30 s.cells30) (hbw : Below w.heap.size w w2) (hr : Reads w2 s C) (hsd : Sound s) (hbr : s.broken = false) (hi : i < zs.length) (hzl : zs.length ≤ 1048576) (hcn : s.closers.n ≤ 10000)
    (hn8 : numc (Pl.bt zs i) = true) (hk9 : keepB s = false) (hd : s.keepDepth = (s.closers.n : Int)) (h1 : 0 ≤ s.keepFrom) (h2 : s.keepFrom ≤ (i : Int)) :
    Code.wp Try.prog ((Try.f8.body.bind (fromRegion 14)).getD .skip) (bodyPost Try.prog Try.f8 fun e w' => e = .returned (.bool true) ∧ Below w.heap.size w w') ⟨#[.slice ap zs.length cp, .int .i64 ((i : Nat) : Int), u2, u3, u4, .pointer (some ⟨w.heap.size, 0, none⟩), .bool false, .int .u8 (Pl.bt zs i), .bool (numc (Pl.bt zs i)), .bool (keepB s), u10, u11, u12, u13, u14, u15, u16, u17, u18, u19, u20, u21, u22, u23, u24, u25, u26, u27, u28, u29, u30, u31, u32, u33, u34, u35, u36, u37, u38, u39, u40, u41, u42, u43, u44, u45, u46, u47, u48, u49, u50, u51, u52, u53, u54, u55, u56, u57, u58, u59, u60, u61, u62, u63, u64, u65, u66, u67, u68, u69, u70, u71, u72, u73, u74, u75, u76, u77, u78, u79, u80, u81, u82, u83, u84, u85, u86, u87, u88, u89, u90, u91, u92, u93, u94, u95, u96, u97, u98, u99, u100, u101, u102, u103, u104, u105, u106, u107, u108, u109, u110, u111, u112, u113, u114, u115, u116, u117, u118, u119, u120, u121, u122, u123, u124, u125, u126, u127, u128, u129, u130, u131, u132, u133, u134, u135, u136, u137, u138, u139, u140, u141, u142, u143, u144, u145, u146, u147, u148, u149, u150, u151, u152, u153, u154, u155, u156, u157, u158, u159, u160, u161, u162, u163, u164, u165, u166, u167, u168, u169, u170, u171, u172, u173, u174, u175, u176, u177, u178, u179, u180, u181, u182, u183, u184, u185, u186, u187, u188, u189, u190, u191, u192, u193, u194, u195, u196, u197, u198, u199, u200, u201, u202, u203, u204, u205, u206, u207, u208, u209, u210, u211, u212, u213, u214, u215, u216, u217, u218, u219, u220, u221, u222, u223, u224, u225, u226, u227, u228, u229, u230, u231, u232, u233, u234, u235, u236, u237, u238, u239, u240], []⟩ w2 := by
  conv => arg 2; whnf
  have c15 : w2.cell? ⟨w.heap.size, 15, none⟩ = some (.int .i64 s.keepDepth) := hB.cell 15
  have c16 : w2.cell? ⟨w.heap.size, 16, none⟩ = some (.int .i64 s.keepFrom) := hB.cell 16
  have c2 : w2.cell? ⟨w.heap.size, 2, none⟩ = some s.closers.v := hB.cell 2
  have HALL : Hid (Rd w2 ap zs ∧ (ap = none → cp = 0) ∧ Blk w2 w.heap.size 30 s.cells30 ∧ Below w.heap.size w w2 ∧ Reads w2 s C ∧ Sound s ∧ s.broken = false) := ⟨hp, hpn, hB, hbw, hr, hsd, hbr⟩
  clear hp hpn hB hbw hr hsd hbr
  obtain ⟨nu, hnu⟩ : ∃ x, x = numc (Pl.bt zs i) := ⟨_, rfl⟩
  have H8 : Hid (numc (Pl.bt zs i) = nu) := hnu.symm
  obtain rfl : nu = true := by rw [hnu]; exact hn8
  rw [hn8]
  clear hnu hn8
  rw [hk9]
  have hkb : (s.keepDepth == (s.closers.n : Int)) = true := by rw [beq_iff_eq]; exact hd
  clear hk9 hd
  go_upto_if 93 with fail
  go_cut [6] (fun t wx => t = .bool false ∧ w2 = wx)
  case first =>
    go_wp2_with fail
    go_meet
    exact ⟨rfl, rfl⟩
  case rest =>
  obtain ⟨rfl, rfl⟩ := hcut
  go_step
  exact t16n w w2 ap cp zs i s C HALL.out.1 HALL.out.2.1 HALL.out.2.2.1 HALL.out.2.2.2.1 HALL.out.2.2.2.2.1 HALL.out.2.2.2.2.2.1 HALL.out.2.2.2.2.2.2 hi hzl hcn (fun _ _ _ => ⟨h1, h2⟩) H8.out.symm

set_option maxHeartbeats 4000000 in
set_option maxRecDepth 100000 in
theorem t14_e (w w2 : World) (ap : Option Addr) (cp : Nat) (zs : List Int) (i : Nat) (s : Str) (C : Con) {u2 u3 u4 u10 u11 u12 u13 u14 u15 u16 u17 u18 u19 u20 u21 u22 u23 u24 u25 u26 u27 u28 u29 u30 u31 u32 u33 u34 u35 u36 u37 u38 u39 u40 u41 u42 u43 u44 u45 u46 u47 u48 u49 u50 u51 u52 u53 u54 u55 u56 u57 u58 u59 u60 u61 u62 u63 u64 u65 u66 u67 u68 u69 u70 u71 u72 u73 u74 u75 u76 u77 u78 u79 u80 u81 u82 u83 u84 u85 u86 u87 u88 u89 u90 u91 u92 u93 u94 u95 u96 u97 u98 u99 u100 u101 u102 u103 u104 u105 u106 u107 u108 u109 u110 u111 u112 u113 u114 u115 u116 u117 u118 u119 u120 u121 u122 u123 u124 u125 u126 u127 u128 u129 u130 u131 u132 u133 u134 u135 u136 u137 u138 u139 u140 u141 u142 u143 u144 u145 u146 u147 u148 u149 u150 u151 u152 u153 u154 u155 u156 u157 u158 u159 u160 u161 u162 u163 u164 u165 u166 u167 u168 u169 u170 u171 u172 u173 u174 u175 u176 u177 u178 u179 u180 u181 u182 u183 u184 u185 u186 u187 u188 u189 u190 u191 u192 u193 u194 u195 u196 u197 u198 u199 u200 u201 u202 u203 u204 u205 u206 u207 u208 u209 u210 u211 u212 u213 u214 u215 u216 u217 u218 u219 u220 u221 u222 u223 u224 u225 u226 u227 u228 u229 u230 u231 u232 u233 u234 u235 u236 u237 u238 u239 u240 : Value}
    (hp : Rd w2 ap zs) (hpn : ap = none → cp = 0) (hB : Blk w2 w.heap.size 30 s.cells30) (hbw : Below w.heap.size w w2) (hr : Reads w2 s C) (hsd : Sound s) (hbr : s.broken = false) (hi : i < zs.length) (hzl : zs.length ≤ 1048576) (hcn : s.closers.n ≤ 10000)
    (hn8 : numc (Pl.bt zs i) = true) (hk9 : keepB s = false) (hd : s.keepDepth = (s.closers.n : Int)) (h1 : 0 ≤ s.keepFrom) (h2 : ¬ s.keepFrom ≤ (i : Int)) :
    Code.wp Try.prog ((Try.f8.body.bind (fromRegion 14)).getD .skip) (bodyPost Try.prog Try.f8 fun e w' => e = .returned (.bool true) ∧ Below w.heap.size w w') ⟨#[.slice ap zs.length cp, .int .i64 ((i : Nat) : Int), u2, u3, u4, .pointer (some ⟨w.heap.size, 0, none⟩), .bool false, .int .u8 (Pl.bt zs i), .bool (numc (Pl.bt zs i)), .bool (keepB s), u10, u11, u12, u13, u14, u15, u16, u17, u18, u19, u20, u21, u22, u23, u24, u25, u26, u27, u28, u29, u30, u31, u32, u33, u34, u35, u36, u37, u38, u39, u40, u41, u42, u43, u44, u45, u46, u47, u48, u49, u50, u51, u52, u53, u54, u55, u56, u57, u58, u59, u60, u61, u62, u63, u64, u65, u66, u67, u68, u69, u70, u71, u72, u73, u74, u75, u76, u77, u78, u79, u80, u81, u82, u83, u84, u85, u86, u87, u88, u89, u90, u91, u92, u93, u94, u95, u96, u97, u98, u99, u100, u101, u102, u103, u104, u105, u106, u107, u108, u109, u110, u111, u112, u113, u114, u115, u116, u117, u118, u119, u120, u121, u122, u123, u124, u125, u126, u127, u128, u129, u130, u131, u132, u133, u134, u135, u136, u137, u138, u139, u140, u141, u142, u143, u144, u145, u146, u147, u148, u149, u150, u151, u152, u153, u154, u155, u156, u157, u158, u159, u160, u161, u162, u163, u164, u165, u166, u167, u168, u169, u170, u171, u172, u173, u174, u175, u176, u177, u178, u179, u180, u181, u182, u183, u184, u185, u186, u187, u188, u189, u190, u191, u192, u193, u194, u195, u196, u197, u198, u199, u200, u201, u202, u203, u204, u205, u206, u207, u208, u209, u210, u211, u212, u213, u214, u215, u216, u217, u218, u219, u220, u221, u222, u223, u224, u225, u226, u227, u228, u229, u230, u231, u232, u233, u234, u235, u236, u237, u238, u239, u240], []⟩ w2 := by
  conv => arg 2; whnf
  have c15 : w2.cell? ⟨w.heap.size, 15, none⟩ = some (.int .i64 s.keepDepth) := hB.cell 15
  have c16 : w2.cell? ⟨w.heap.size, 16, none⟩ = some (.int .i64 s.keepFrom) := hB.cell 16
  have c2 : w2.cell? ⟨w.heap.size, 2, none⟩ = some s.closers.v := hB.cell 2
  have HALL : Hid (Rd w2 ap zs ∧ (ap = none → cp = 0) ∧ Blk w2 w.heap.size 30 s.cells30 ∧ Below w.heap.size w w2 ∧ Reads w2 s C ∧ Sound s ∧ s.broken = false) := ⟨hp, hpn, hB, hbw, hr, hsd, hbr⟩
  clear hp hpn hB hbw hr hsd hbr
  obtain ⟨nu, hnu⟩ : ∃ x, x = numc (Pl.bt zs i) := ⟨_, rfl⟩
  have H8 : Hid (numc (Pl.bt zs i) = nu) := hnu.symm
  obtain rfl : nu = true := by rw [hnu]; exact hn8
  rw [hn8]
  clear hnu hn8
  rw [hk9]
  have hkb : (s.keepDepth == (s.closers.n : Int)) = true := by rw [beq_iff_eq]; exact hd
  clear hk9 hd H8
  go_wp2_with fail
  go_ret
  exact ⟨rfl, HALL.out.2.2.2.1⟩

set_option maxHeartbeats 4000000 in
set_option maxRecDepth 100000 in
theorem t14_f (w w2 : World) (ap : Option Addr) (cp : Nat) (zs : List Int) (i : Nat) (s : Str) (C : Con) {u2 u3 u4 u10 u11 u12 u13 u14 u15 u16 u17 u18 u19 u20 u21 u22 u23 u24 u25 u26 u27 u28 u29 u30 u31 u32 u33 u34 u35 u36 u37 u38 u39 u40 u41 u42 u43 u44 u45 u46 u47 u48 u49 u50 u51 u52 u53 u54 u55 u56 u57 u58 u59 u60 u61 u62 u63 u64 u65 u66 u67 u68 u69 u70 u71 u72 u73 u74 u75 u76 u77 u78 u79 u80 u81 u82 u83 u84 u85 u86 u87 u88 u89 u90 u91 u92 u93 u94 u95 u96 u97 u98 u99 u100 u101 u102 u103 u104 u105 u106 u107 u108 u109 u110 u111 u112 u113 u114 u115 u116 u117 u118 u119 u120 u121 u122 u123 u124 u125 u126 u127 u128 u129 u130 u131 u132 u133 u134 u135 u136 u137 u138 u139 u140 u141 u142 u143 u144 u145 u146 u147 u148 u149 u150 u151 u152 u153 u154 u155 u156 u157 u158 u159 u160 u161 u162 u163 u164 u165 u166 u167 u168 u169 u170 u171 u172 u173 u174 u175 u176 u177 u178 u179 u180 u181 u182 u183 u184 u185 u186 u187 u188 u189 u190 u191 u192 u193 u194 u195 u196 u197 u198 u199 u200 u201 u202 u203 u204 u205 u206 u207 u208 u209 u210 u211 u212 u213 u214 u215 u216 u217 u218 u219 u220 u221 u222 u223 u224 u225 u226 u227 u228 u229 u230 u231 u232 u233 u234 u235 u236 u237 u238 u239 u240 : Value}
    (hp : Rd w2 ap zs) (hpn : ap = none → cp = 0) (hB : Blk w2 w.heap.size 30 s.cells30) (hbw : Below w.heap.size w w2) (hr : Reads w2 s C) (hsd : Sound s) (hbr : s.broken = false) (hi : i < zs.length) (hzl : zs.length ≤ 1048576) (hcn : s.closers.n ≤ 10000)
    (hn8 : numc (Pl.bt zs i) = true) (hk9 : keepB s = false) (hd : s.keepDepth = (s.closers.n : Int)) (h1 : ¬ 0 ≤ s.keepFrom) :
    Code.wp Try.prog ((Try.f8.body.bind (fromRegion 14)).getD .skip) (bodyPost Try.prog Try.f8 fun e w' => e = .returned (.bool true) ∧ Below w.heap.size w w') ⟨#[.slice ap zs.length cp, .int .i64 ((i : Nat) : Int), u2, u3, u4, .pointer (some ⟨w.heap.size, 0, none⟩), .bool false, .int .u8 (Pl.bt zs i), .bool (numc (Pl.bt zs i)), .bool (keepB s), u10, u11, u12, u13, u14, u15, u16, u17, u18, u19, u20, u21, u22, u23, u24, u25, u26, u27, u28, u29, u30, u31, u32, u33, u34, u35, u36, u37, u38, u39, u40, u41, u42, u43, u44, u45, u46, u47, u48, u49, u50, u51, u52, u53, u54, u55, u56, u57, u58, u59, u60, u61, u62, u63, u64, u65, u66, u67, u68, u69, u70, u71, u72, u73, u74, u75, u76, u77, u78, u79, u80, u81, u82, u83, u84, u85, u86, u87, u88, u89, u90, u91, u92, u93, u94, u95, u96, u97, u98, u99, u100, u101, u102, u103, u104, u105, u106, u107, u108, u109, u110, u111, u112, u113, u114, u115, u116, u117, u118, u119, u120, u121, u122, u123, u124, u125, u126, u127, u128, u129, u130, u131, u132, u133, u134, u135, u136, u137, u138, u139, u140, u141, u142, u143, u144, u145, u146, u147, u148, u149, u150, u151, u152, u153, u154, u155, u156, u157, u158, u159, u160, u161, u162, u163, u164, u165, u166, u167, u168, u169, u170, u171, u172, u173, u174, u175, u176, u177, u178, u179, u180, u181, u182, u183, u184, u185, u186, u187, u188, u189, u190, u191, u192, u193, u194, u195, u196, u197, u198, u199, u200, u201, u202, u203, u204, u205, u206, u207, u208, u209, u210, u211, u212, u213, u214, u215, u216, u217, u218, u219, u220, u221, u222, u223, u224, u225, u226, u227, u228, u229, u230, u231, u232, u233, u234, u235, u236, u237, u238, u239, u240], []⟩ w2 := by
  conv => arg 2; whnf
  have c15 : w2.cell? ⟨w.heap.size, 15, none⟩ = some (.int .i64 s.keepDepth) := hB.cell 15
  have c16 : w2.cell? ⟨w.heap.size, 16, none⟩ = some (.int .i64 s.keepFrom) := hB.cell 16
  have c2 : w2.cell? ⟨w.heap.size, 2, none⟩ = some s.closers.v := hB.cell 2
  have HALL : Hid (Rd w2 ap zs ∧ (ap = none → cp = 0) ∧ Blk w2 w.heap.size 30 s.cells30 ∧ Below w.heap.size w w2 ∧ Reads w2 s C ∧ Sound s ∧ s.broken = false) := ⟨hp, hpn, hB, hbw, hr, hsd, hbr⟩
  clear hp hpn hB hbw hr hsd hbr
  obtain ⟨nu, hnu⟩ : ∃ x, x = numc (Pl.bt zs i) := ⟨_, rfl⟩
  have H8 : Hid (numc (Pl.bt zs i) = nu) := hnu.symm
  obtain rfl : nu = true := by rw [hnu]; exact hn8
  rw [hn8]
  clear hnu hn8
  rw [hk9]
  have hkb : (s.keepDepth == (s.closers.n : Int)) = true := by rw [beq_iff_eq]; exact hd
  clear hk9 hd H8
  go_wp2_with fail
  go_ret
  exact ⟨rfl, HALL.out.2.2.2.1⟩

theorem t14 (w w2 : World) (ap : Option Addr) (cp : Nat) (zs : List Int) (i : Nat) (s : Str) (C : Con) {u2 u3 u4 u10 u11 u12 u13 u14 u15 u16 u17 u18 u19 u20 u21 u22 u23 u24 u25 u26 u27 u28 u29 u30 u31 u32 u33 u34 u35 u36 u37 u38 u39 u40 u41 u42 u43 u44 u45 u46 u47 u48 u49 u50 u51 u52 u53 u54 u55 u56 u57 u58 u59 u60 u61 u62 u63 u64 u65 u66 u67 u68 u69 u70 u71 u72 u73 u74 u75 u76 u77 u78 u79 u80 u81 u82 u83 u84 u85 u86 u87 u88 u89 u90 u91 u92 u93 u94 u95 u96 u97 u98 u99 u100 u101 u102 u103 u104 u105 u106 u107 u108 u109 u110 u111 u112 u113 u114 u115 u116 u117 u118 u119 u120 u121 u122 u123 u124 u125 u126 u127 u128 u129 u130 u131 u132 u133 u134 u135 u136 u137 u138 u139 u140 u141 u142 u143 u144 u145 u146 u147 u148 u149 u150 u151 u152 u153 u154 u155 u156 u157 u158 u159 u160 u161 u162 u163 u164 u165 u166 u167 u168 u169 u170 u171 u172 u173 u174 u175 u176 u177 u178 u179 u180 u181 u182 u183 u184 u185 u186 u187 u188 u189 u190 u191 u192 u193 u194 u195 u196 u197 u198 u199 u200 u201 u202 u203 u204 u205 u206 u207 u208 u209 u210 u211 u212 u213 u214 u215 u216 u217 u218 u219 u220 u221 u222 u223 u224 u225 u226 u227 u228 u229 u230 u231 u232 u233 u234 u235 u236 u237 u238 u239 u240 : Value}
    (hp : Rd w2 ap zs) (hpn : ap = none → cp = 0) (hB : Blk w2 w.heap.size 30 s.cells30) (hbw : Below w.heap.size w w2) (hr : Reads w2 s C) (hsd : Sound s) (hbr : s.broken = false) (hi : i < zs.length) (hzl : zs.length ≤ 1048576) (hcn : s.closers.n ≤ 10000) :
    Code.wp Try.prog ((Try.f8.body.bind (fromRegion 14)).getD .skip) (bodyPost Try.prog Try.f8 fun e w' => e = .returned (.bool true) ∧ Below w.heap.size w w') ⟨#[.slice ap zs.length cp, .int .i64 ((i : Nat) : Int), u2, u3, u4, .pointer (some ⟨w.heap.size, 0, none⟩), .bool false, .int .u8 (Pl.bt zs i), .bool (numc (Pl.bt zs i)), .bool (keepB s), u10, u11, u12, u13, u14, u15, u16, u17, u18, u19, u20, u21, u22, u23, u24, u25, u26, u27, u28, u29, u30, u31, u32, u33, u34, u35, u36, u37, u38, u39, u40, u41, u42, u43, u44, u45, u46, u47, u48, u49, u50, u51, u52, u53, u54, u55, u56, u57, u58, u59, u60, u61, u62, u63, u64, u65, u66, u67, u68, u69, u70, u71, u72, u73, u74, u75, u76, u77, u78, u79, u80, u81, u82, u83, u84, u85, u86, u87, u88, u89, u90, u91, u92, u93, u94, u95, u96, u97, u98, u99, u100, u101, u102, u103, u104, u105, u106, u107, u108, u109, u110, u111, u112, u113, u114, u115, u116, u117, u118, u119, u120, u121, u122, u123, u124, u125, u126, u127, u128, u129, u130, u131, u132, u133, u134, u135, u136, u137, u138, u139, u140, u141, u142, u143, u144, u145, u146, u147, u148, u149, u150, u151, u152, u153, u154, u155, u156, u157, u158, u159, u160, u161, u162, u163, u164, u165, u166, u167, u168, u169, u170, u171, u172, u173, u174, u175, u176, u177, u178, u179, u180, u181, u182, u183, u184, u185, u186, u187, u188, u189, u190, u191, u192, u193, u194, u195, u196, u197, u198, u199, u200, u201, u202, u203, u204, u205, u206, u207, u208, u209, u210, u211, u212, u213, u214, u215, u216, u217, u218, u219, u220, u221, u222, u223, u224, u225, u226, u227, u228, u229, u230, u231, u232, u233, u234, u235, u236, u237, u238, u239, u240], []⟩ w2 := by
  rcases Bool.eq_false_or_eq_true (numc (Pl.bt zs i)) with hn8 | hn8
  · rcases Bool.eq_false_or_eq_true (keepB s) with hk9 | hk9
    · exact t14_b w w2 ap cp zs i s C hp hpn hB hbw hr hsd hbr hi hzl hcn hn8 hk9
    · by_cases hd : s.keepDepth = (s.closers.n : Int)
      · by_cases h1 : 0 ≤ s.keepFrom
        · by_cases h2 : s.keepFrom ≤ (i : Int)
          · exact t14_d w w2 ap cp zs i s C hp hpn hB hbw hr hsd hbr hi hzl hcn hn8 hk9 hd h1 h2
          · exact t14_e w w2 ap cp zs i s C hp hpn hB hbw hr hsd hbr hi hzl hcn hn8 hk9 hd h1 h2
        · exact t14_f w w2 ap cp zs i s C hp hpn hB hbw hr hsd hbr hi hzl hcn hn8 hk9 hd h1
      · exact t14_c w w2 ap cp zs i s C hp hpn hB hbw hr hsd hbr hi hzl hcn hn8 hk9 hd
  · exact t14_a w w2 ap cp zs i s C hp hpn hB hbw hr hsd hbr hi hzl hcn hn8

set_option maxHeartbeats 4000000 in
set_option maxRecDepth 100000 in
theorem t12 (w w2 : World) (ap : Option Addr) (cp : Nat) (zs : List Int) (i : Nat) (s : Str) (C : Con) {u2 u3 u4 u8 u9 u10 u11 u12 u13 u14 u15 u16 u17 u18 u19 u20 u21 u22 u23 u24 u25 u26 u27 u28 u29 u30 u31 u32 u33 u34 u35 u36 u37 u38 u39 u40 u41 u42 u43 u44 u45 u46 u47 u48 u49 u50 u51 u52 u53 u54 u55 u56 u57 u58 u59 u60 u61 u62 u63 u64 u65 u66 u67 u68 u69 u70 u71 u72 u73 u74 u75 u76 u77 u78 u79 u80 u81 u82 u83 u84 u85 u86 u87 u88 u89 u90 u91 u92 u93 u94 u95 u96 u97 u98 u99 u100 u101 u102 u103 u104 u105 u106 u107 u108 u109 u110 u111 u112 u113 u114 u115 u116 u117 u118 u119 u120 u121 u122 u123 u124 u125 u126 u127 u128 u129 u130 u131 u132 u133 u134 u135 u136 u137 u138 u139 u140 u141 u142 u143 u144 u145 u146 u147 u148 u149 u150 u151 u152 u153 u154 u155 u156 u157 u158 u159 u160 u161 u162 u163 u164 u165 u166 u167 u168 u169 u170 u171 u172 u173 u174 u175 u176 u177 u178 u179 u180 u181 u182 u183 u184 u185 u186 u187 u188 u189 u190 u191 u192 u193 u194 u195 u196 u197 u198 u199 u200 u201 u202 u203 u204 u205 u206 u207 u208 u209 u210 u211 u212 u213 u214 u215 u216 u217 u218 u219 u220 u221 u222 u223 u224 u225 u226 u227 u228 u229 u230 u231 u232 u233 u234 u235 u236 u237 u238 u239 u240 : Value}
    (hp : Rd w2 ap zs) (hpn : ap = none → cp = 0) (hB : Blk w2 w.heap.size 30 s.cells30) (hbw : Below w.heap.size w w2) (hr : Reads w2 s C) (hsd : Sound s) (hbr : s.broken = false) (hi : i < zs.length) (hzl : zs.length ≤ 1048576) (hcn : s.closers.n ≤ 10000) :
    Code.wp Try.prog ((Try.f8.body.bind (fromRegion 12)).getD .skip) (bodyPost Try.prog Try.f8 fun e w' => e = .returned (.bool true) ∧ Below w.heap.size w w') ⟨#[.slice ap zs.length cp, .int .i64 ((i : Nat) : Int), u2, u3, u4, .pointer (some ⟨w.heap.size, 0, none⟩), .bool false, .int .u8 (Pl.bt zs i), u8, u9, u10, u11, u12, u13, u14, u15, u16, u17, u18, u19, u20, u21, u22, u23, u24, u25, u26, u27, u28, u29, u30, u31, u32, u33, u34, u35, u36, u37, u38, u39, u40, u41, u42, u43, u44, u45, u46, u47, u48, u49, u50, u51, u52, u53, u54, u55, u56, u57, u58, u59, u60, u61, u62, u63, u64, u65, u66, u67, u68, u69, u70, u71, u72, u73, u74, u75, u76, u77, u78, u79, u80, u81, u82, u83, u84, u85, u86, u87, u88, u89, u90, u91, u92, u93, u94, u95, u96, u97, u98, u99, u100, u101, u102, u103, u104, u105, u106, u107, u108, u109, u110, u111, u112, u113, u114, u115, u116, u117, u118, u119, u120, u121, u122, u123, u124, u125, u126, u127, u128, u129, u130, u131, u132, u133, u134, u135, u136, u137, u138, u139, u140, u141, u142, u143, u144, u145, u146, u147, u148, u149, u150, u151, u152, u153, u154, u155, u156, u157, u158, u159, u160, u161, u162, u163, u164, u165, u166, u167, u168, u169, u170, u171, u172, u173, u174, u175, u176, u177, u178, u179, u180, u181, u182, u183, u184, u185, u186, u187, u188, u189, u190, u191, u192, u193, u194, u195, u196, u197, u198, u199, u200, u201, u202, u203, u204, u205, u206, u207, u208, u209, u210, u211, u212, u213, u214, u215, u216, u217, u218, u219, u220, u221, u222, u223, u224, u225, u226, u227, u228, u229, u230, u231, u232, u233, u234, u235, u236, u237, u238, u239, u240], []⟩ w2 := by
  conv => arg 2; whnf
  have HALL : Hid (Rd w2 ap zs ∧ (ap = none → cp = 0) ∧ Blk w2 w.heap.size 30 s.cells30 ∧ Below w.heap.size w w2 ∧ Reads w2 s C ∧ Sound s ∧ s.broken = false) := ⟨hp, hpn, hB, hbw, hr, hsd, hbr⟩
  clear hp hpn hB hbw hr hsd hbr
  dsimp only
  go_upto_region 12 with fail
  go_cut [8] (fun t wx => t = .bool (numc (Pl.bt zs i)) ∧ w2 = wx)
  case first =>
    cases h45 : (Pl.bt zs i == 45) with
    | true =>
      go_wp2_with fail
      go_meet
      exact ⟨by unfold numc; rw [h45]; rfl, rfl⟩
    | false =>
      go_wp2_with (go_at_call 32; refine (isDigit_any _ _).mono ?_; rintro e w' ⟨rfl, hw⟩; replace hw := hw.symm; subst hw)
      go_meet
      exact ⟨by unfold numc; rw [h45]; rfl, rfl⟩
  case rest =>
  obtain ⟨rfl, rfl⟩ := hcut
  have c12 : w2.cell? ⟨w.heap.size, 12, none⟩ = some (.bool s.named) := HALL.out.2.2.1.cell 12
  have c3 : w2.cell? ⟨w.heap.size, 3, none⟩ = some (.int .i64 s.onPath) := HALL.out.2.2.1.cell 3
  have c0 : w2.cell? ⟨w.heap.size, 0, none⟩ = some s.path.v := HALL.out.2.2.1.cell 0
  go_upto_region 13 with fail
  go_cut [9] (fun t wx => t = .bool (keepB s) ∧ w2 = wx)
  case first =>
    cases hnm : s.named with
    | false =>
      rw [hnm] at c12
      go_wp2_with fail
      go_meet
      exact ⟨by unfold keepB; rw [hnm]; rfl, rfl⟩
    | true =>
      rw [hnm] at c12
      go_wp2_with fail
      go_meet
      exact ⟨by unfold keepB; rw [hnm]; rfl, rfl⟩
  case rest =>
  obtain ⟨rfl, rfl⟩ := hcut
  go_step
  exact t14 w w2 ap cp zs i s C HALL.out.1 HALL.out.2.1 HALL.out.2.2.1 HALL.out.2.2.2.1 HALL.out.2.2.2.2.1 HALL.out.2.2.2.2.2.1 HALL.out.2.2.2.2.2.2 hi hzl hcn
end Go.Proofs.Qxb6602575a
