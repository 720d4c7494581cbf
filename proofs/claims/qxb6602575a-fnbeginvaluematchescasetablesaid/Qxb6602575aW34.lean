import Derived.Test.Qxb6602575aW33
namespace Go.Proofs.Qxb6602575a
open Go.RowKit

def startsAt (n : Nat) : Code → Bool
  | .region id _ _ => id == n
  | .seq a _ => startsAt n a
  | _ => false
def fromRegion (n : Nat) : Code → Option Code
  | .seq a b => if startsAt n a then some (.seq a b) else match fromRegion n a with
    | some x => some x
    | none => fromRegion n b
  | _ => none

theorem fits_tab {w wx wm : World} {ap : Option Addr} {zs : List Int} {s1 s2 : Str} {C : Con} {base B1 B2 g i : Nat} {used : Int} {ended bad : Bool} {phn : Nat} {k cl : Sl} {p c n kk : Option Addr} {e : Ending} (hs2 : s1.with4 p c n kk = s2)
    (hms : MS w ap zs s1 C base B1 B2 ((table s1 C zs i used ended bad phn).S k cl) wx) (hk : wx.ownsRow 0 5 1 k.v k.n (bys (table s1 C zs i used ended bad phn).kc)) (hc : wx.ownsRow 0 5 1 cl.v cl.n (bys (table s1 C zs i used ended bad phn).cc))
    (hpth : wx.ownsRow 0 9 1 s2.path.v s2.path.n (strs C.path)) (hnm : wx.ownsRow 0 5 1 s2.name.v s2.name.n (bys C.name)) (hbv : BV wm g (table s2 C zs i used ended bad phn) e wx) :
    ∃ (V : Str) (C' : Con), e = .returned (.int .i64 (table s1 C zs i used ended bad phn).ret) ∧ Strm wx g V ∧ V.broken = (table s1 C zs i used ended bad phn).bad ∧
      Blk wx B2 30 ({ V with path := s1.path, closers := cl, name := s1.name, kept := k } : Str).cells30 ∧ Reads wx V C' ∧ Reads wx { V with path := s1.path, closers := cl, name := s1.name, kept := k } C' := by
  subst hs2
  have R := table_rel s1 p c n kk C zs i used ended bad phn
  obtain ⟨k', cl', he, hst, hk', hc', _⟩ := hbv
  have r := hms.owned.reads
  have ln : ∀ {v : Value} {m : Nat} {xs : List Int}, wx.ownsRow 0 5 1 v m (bys xs) → xs.length = m := fun h => by have := owns_len h; rwa [bys_length] at this
  refine ⟨_, ⟨C.path, (table s1 C zs i used ended bad phn).cc, C.name, (table s1 C zs i used ended bad phn).kc⟩, by rw [he, R.ret], hst, R.bad, ?_, ?_, ?_⟩
  · have h := hms.two
    rw [R.cells k cl k' cl' (table (s1.with4 p c n kk) C zs i used ended bad phn).bad] at h
    exact h
  · refine ⟨?_, ?_, ?_, ?_, ?_, ?_, ?_, ?_⟩
    · show RdS wx ((table (s1.with4 p c n kk) C zs i used ended bad phn).S k' cl').path.a C.path; rw [R.path]; exact rds_of_owns hpth
    · show C.path.length = ((table (s1.with4 p c n kk) C zs i used ended bad phn).S k' cl').path.n; rw [R.path]; have := owns_len hpth; rwa [strs_length] at this
    · show Rd wx ((table (s1.with4 p c n kk) C zs i used ended bad phn).S k' cl').closers.a _; rw [R.closers, ← R.cc]; exact rd_of_owns hc'
    · show _ = ((table (s1.with4 p c n kk) C zs i used ended bad phn).S k' cl').closers.n; rw [R.closers, ← R.cc]; exact ln hc'
    · show Rd wx ((table (s1.with4 p c n kk) C zs i used ended bad phn).S k' cl').name.a _; rw [R.name]; exact rd_of_owns hnm
    · show C.name.length = ((table (s1.with4 p c n kk) C zs i used ended bad phn).S k' cl').name.n; rw [R.name]; exact ln hnm
    · show Rd wx ((table (s1.with4 p c n kk) C zs i used ended bad phn).S k' cl').kept.a _; rw [R.kept, ← R.kc]; exact rd_of_owns hk'
    · show _ = ((table (s1.with4 p c n kk) C zs i used ended bad phn).S k' cl').kept.n; rw [R.kept, ← R.kc]; exact ln (own_base hk' (Nat.zero_le _))
  · exact ⟨r.path, r.pathN, rd_of_owns hc, ln hc, r.name, r.nameN, rd_of_owns hk, ln hk⟩

set_option maxHeartbeats 4000000 in
set_option maxRecDepth 100000 in
theorem t76 (w w11 : World) (ap3 : Option Addr) (zs : List Int) (i : Nat) (s1 : Str) (C : Con) (base B2 : Nat) (used : Int) (ended bad : Bool) (phn : Nat) (R : Int) (bd : Bool) (k cl : Sl) {u2 u3 u4 u7 u8 u9 u11 u14 u15 u16 u17 u18 u19 u20 u21 u22 u23 u24 u25 u26 u27 u28 u29 u30 u31 u32 u33 u34 u35 u36 u37 u38 u39 u40 u41 u42 u43 u44 u45 u46 u47 u48 u49 u50 u51 u52 u53 u54 u55 u56 u57 u58 u59 u60 u61 u62 u63 u64 u65 u66 u67 u68 u69 u70 u71 u72 u73 u74 u75 u76 u77 u78 u79 u80 u81 u82 u83 u84 u85 u86 u87 u88 u89 u90 u91 u92 u93 u94 u95 u96 u97 u98 u99 u100 u101 u102 u103 u104 u105 u106 u107 u108 u109 u110 u111 u112 u113 u114 u115 u116 u117 u118 u119 u120 u121 u122 u123 u124 u125 u126 u127 u128 u129 u130 u131 u132 u133 u134 u135 u136 u137 u138 u139 u140 u141 u142 u143 u144 u145 u146 u147 u148 u149 u150 u151 u152 u153 u154 u155 u156 u157 u158 u159 u160 u161 u162 u163 u164 u165 u166 u167 u168 u169 u170 u171 u172 u173 u174 u175 u176 u177 u178 u179 u180 u181 u182 u183 u184 u185 u186 u187 u188 u189 u190 u191 u192 u193 u194 u195 u196 u197 u198 u199 u200 u201 u202 u203 u204 u205 u206 u207 u208 u209 u210 u211 u212 u213 u214 u215 u216 u217 u218 u219 u220 u221 u222 u223 u224 u225 u226 u227 u228 u229 u230 u231 u232 u233 u234 u235 u236 u237 u238 u239 u240 : Value}
    (hR : R = (table s1 C zs i used ended bad phn).ret) (hbd : bd = (table s1 C zs i used ended bad phn).bad)
    (hms : MS w ap3 zs s1 C base w.heap.size B2 ((table s1 C zs i used ended bad phn).S k cl) w11) (hk : w11.ownsRow 0 5 1 k.v k.n (bys (table s1 C zs i used ended bad phn).kc)) (hcl : w11.ownsRow 0 5 1 cl.v cl.n (bys (table s1 C zs i used ended bad phn).cc))
    (hsd : Sound s1) (hbr : s1.broken = false) (hi : i < zs.length) (hzl : zs.length ≤ 1048576) (hcn : s1.closers.n ≤ 10000)
    (hf : numc (Pl.bt zs i) = true → ¬ (s1.named = true ∧ s1.onPath = (s1.path.n : Int)) → s1.keepDepth = (s1.closers.n : Int) → 0 ≤ s1.keepFrom ∧ s1.keepFrom ≤ i)
    (hsc : numc (Pl.bt zs i) = true → Scan (phText (phc (Pl.bt zs i)) ++ zs.drop (i + 1)) (phText (phc (Pl.bt zs i))).length (zs.length - (i + 1)) used ended bad phn) :
    Code.wp Try.prog ((Try.f8.body.bind (fromRegion 76)).getD .skip) (bodyPost Try.prog Try.f8 fun e w' => e = .returned (.bool true) ∧ Below w.heap.size w w') ⟨#[.slice ap3 zs.length zs.length, .int .i64 ((i : Nat) : Int), u2, u3, u4, .pointer (some ⟨w.heap.size, 0, none⟩), .bool false, u7, u8, u9, .pointer (some ⟨B2, 0, none⟩), u11, .int .i64 R, .bool bd, u14, u15, u16, u17, u18, u19, u20, u21, u22, u23, u24, u25, u26, u27, u28, u29, u30, u31, u32, u33, u34, u35, u36, u37, u38, u39, u40, u41, u42, u43, u44, u45, u46, u47, u48, u49, u50, u51, u52, u53, u54, u55, u56, u57, u58, u59, u60, u61, u62, u63, u64, u65, u66, u67, u68, u69, u70, u71, u72, u73, u74, u75, u76, u77, u78, u79, u80, u81, u82, u83, u84, u85, u86, u87, u88, u89, u90, u91, u92, u93, u94, u95, u96, u97, u98, u99, u100, u101, u102, u103, u104, u105, u106, u107, u108, u109, u110, u111, u112, u113, u114, u115, u116, u117, u118, u119, u120, u121, u122, u123, u124, u125, u126, u127, u128, u129, u130, u131, u132, u133, u134, u135, u136, u137, u138, u139, u140, u141, u142, u143, u144, u145, u146, u147, u148, u149, u150, u151, u152, u153, u154, u155, u156, u157, u158, u159, u160, u161, u162, u163, u164, u165, u166, u167, u168, u169, u170, u171, u172, u173, u174, u175, u176, u177, u178, u179, u180, u181, u182, u183, u184, u185, u186, u187, u188, u189, u190, u191, u192, u193, u194, u195, u196, u197, u198, u199, u200, u201, u202, u203, u204, u205, u206, u207, u208, u209, u210, u211, u212, u213, u214, u215, u216, u217, u218, u219, u220, u221, u222, u223, u224, u225, u226, u227, u228, u229, u230, u231, u232, u233, u234, u235, u236, u237, u238, u239, u240], []⟩ w11 := by
  conv => arg 2; whnf
  have HM11 : Hid (MS w ap3 zs s1 C base w.heap.size B2 ((table s1 C zs i used ended bad phn).S k cl) w11) := hms
  have HK11 : Hid (w11.ownsRow 0 5 1 k.v k.n (bys (table s1 C zs i used ended bad phn).kc)) := hk
  have HC11 : Hid (w11.ownsRow 0 5 1 cl.v cl.n (bys (table s1 C zs i used ended bad phn).cc)) := hcl
  have HSd : Hid (Sound s1) := hsd
  have HBr : Hid (s1.broken = false) := hbr
  have HF : Hid (numc (Pl.bt zs i) = true → ¬ (s1.named = true ∧ s1.onPath = (s1.path.n : Int)) → s1.keepDepth = (s1.closers.n : Int) → 0 ≤ s1.keepFrom ∧ s1.keepFrom ≤ i) := hf
  have HSc : Hid (numc (Pl.bt zs i) = true → Scan (phText (phc (Pl.bt zs i)) ++ zs.drop (i + 1)) (phText (phc (Pl.bt zs i))).length (zs.length - (i + 1)) used ended bad phn) := hsc
  have HRr : Hid (R = (table s1 C zs i used ended bad phn).ret) := hR
  have HBd : Hid (bd = (table s1 C zs i used ended bad phn).bad) := hbd
  clear hms hk hcl hsd hbr hf hsc hR hbd
  go_wp2_with (refine wpList_load_row (o := { dst := some 223, op := .load 30 (.tmp 5), type := _, pos := _, after := _, guard := _ }) rfl 30 _ rfl w.heap.size rfl 30 s1.cells30 (0, 0) _ HM11.out.one Try.underlying30 rfl Try.info30 ?_)
  refine (cloneStream2 s1 C _ HM11.out.owned.reads HSd.out).mono ?_
  rintro e w12 ⟨p5, c5', n5, k5, B, rfl, ho5, b12, hap⟩
  generalize hs2 : s1.with4 p5 c5' n5 k5 = s2 at ho5 hap ⊢
  have HS2 : Hid (s1.with4 p5 c5' n5 k5 = s2) := hs2
  have HBr2 : Hid (s2.broken = false) := by show _ = _; rw [← hs2]; exact HBr.out
  have HO12 : Hid (Owned w12 w11.heap.size s2 C) := ho5
  have HAp12 : Hid (Apart B w11.heap.size s2 C w12) := hap
  have HB12 : Hid (Below w11.heap.size w11 w12) := b12
  clear hs2 ho5 hap b12
  go_wp2_with fail
  refine (toView_any s2 _ HBr2.out).mono ?_
  rintro e w13 ⟨rfl, b13⟩
  go_wp2_with fail
  refine (newStream_any s2 _).mono ?_
  rintro e w14 ⟨g, rfl, hg, hst, b14⟩
  have b1214 : Below w12.heap.size w12 w14 := b13.trans' b14
  have HSt14 : Hid (Strm w14 g s2) := hst
  have HgB : Hid (B ≤ g) := Nat.le_trans HAp12.out.high (Nat.le_trans b13.size hg)
  have HBV : Hid (Calls Try.prog 33 #[.pointer (some ⟨g, 0, none⟩), .slice ap3 zs.length zs.length, .int .i64 ((i : Nat) : Int)] w14 fun e w' => BV (trunc w12 B) g (table s2 C zs i used ended bad phn) e w') := by
    have hsz := trunc_size HAp12.out.high
    have hbm : Below (trunc w12 B).heap.size (trunc w12 B) w14 := by rw [hsz]; exact (trunc_below HAp12.out.high).trans (b1214.mono HAp12.out.high)
    have hkn : C.kept.length ≤ 1048576 := by rw [HO12.out.reads.keptN, ← HS2.out]; exact HSd.out.keptL
    have hpw : (trunc w12 B).ownsRow 0 5 1 (.slice ap3 zs.length zs.length) zs.length (bys zs) := owns_below HM11.out.bytes (below_to_trunc HB12.out HAp12.out.low HAp12.out.high)
    refine zzBeginValue2 g _ _ _ ((beginValue_any (trunc w12 B) w14 g i ap3 zs s2 C used ended bad phn HSt14.out (by rw [hsz]; exact HgB.out) hbm hpw (by rw [hsz]; exact owns_below HAp12.out.kept b1214) (own_trunc (own_base HO12.out.closers (Nat.zero_le _)) HAp12.out.high HAp12.out.closers) HO12.out.closersC hi (by omega) (by rw [← HS2.out]; exact hcn) HBr2.out (by rw [← HS2.out]; exact HF.out) HSc.out).mono ?_)
    intro e w' h
    refine ⟨?_, h⟩
    obtain ⟨k', cl', he, _⟩ := h
    exact ⟨_, he⟩
  clear b13 b14 hg hst b1214
  go_wp2_with fail
  refine HBV.out.mono ?_
  rintro e w15 hbv
  have HBt : Hid (Below (trunc w12 B).heap.size (trunc w12 B) w15) := by obtain ⟨k', cl', _, _, _, _, h⟩ := hbv; exact h
  have HB15 : Hid (Below w11.heap.size w11 w15) := (below_to_trunc HB12.out HAp12.out.low HAp12.out.high).trans (HBt.out.mono (by rw [trunc_size HAp12.out.high]; exact HAp12.out.low))
  have HM15 : Hid (MS w ap3 zs s1 C base w.heap.size B2 ((table s1 C zs i used ended bad phn).S k cl) w15) := HM11.out.call (Nat.le_refl _) HB15.out
  obtain ⟨V, C', he, hV1, hV2, hV3, hV4, hV5⟩ := fits_tab HS2.out HM15.out (owns_below HK11.out HB15.out) (owns_below HC11.out HB15.out) (owns_below (own_trunc (own_base HO12.out.path (Nat.zero_le _)) HAp12.out.high HAp12.out.path) HBt.out) (owns_below (own_trunc (own_base HO12.out.name (Nat.zero_le _)) HAp12.out.high HAp12.out.name) HBt.out) hbv
  rw [← HRr.out] at he
  subst he
  rw [← HBd.out] at hV2
  subst hV2
  have HV1 : Hid (Strm w15 g V) := hV1
  have HV3 : Hid (Blk w15 B2 30 ({ V with path := s1.path, closers := cl, name := s1.name, kept := k } : Str).cells30) := hV3
  have HV4 : Hid (Reads w15 V C') := hV4
  have HV5 : Hid (Reads w15 { V with path := s1.path, closers := cl, name := s1.name, kept := k } C') := hV5
  clear hV1 hV3 hV4 hV5 hbv HBV HBt HB15
  go_wp2_with fail
  obtain ⟨cs, hcs⟩ : ∃ x : Array Value, x = ({ V with path := s1.path, closers := cl, name := s1.name, kept := k } : Str).cells30 := ⟨_, rfl⟩
  rw [← hcs] at HV3
  have HMt : Hid (∀ W : World, Below w15.heap.size w15 W → Calls Try.prog 25 #[.agg V.cells, .agg cs, .bool V.broken] W fun e w' => e = .returned (.bool true) ∧ Below W.heap.size W w') := by
    intro W hW
    rw [hcs]
    exact matches_true V s1.path cl s1.name k C' W (HV4.out.below hW) (HV5.out.below hW)
  have hcz : (Try.prog.info? 30).map (·.size) = some cs.size := by rw [hcs]; exact Try.info30
  have HB15 : Hid (Below w.heap.size w w15) := HM15.out.below
  clear hcs HV4 HV5 HM15
  refine wp_region_held_drew (S := fun W => Below w15.heap.size w15 W) (by kernel_rfl) (Below.refl _ _).drew (fun hHeld => ?_)
  refine wpAnyH_take (i := 0) (oi := { dst := some 231, op := _, type := _, pos := _, after := _, guard := _ }) (v := .int .i64 R) rfl (by kernel_rfl) (by kernel_rfl) (by kernel_rfl) (fun _ _ _ h => h) (Or.inl ⟨by rfl, fun w _ => by go_simp⟩) hHeld ?_
  try simp only [Act.put, List.setIfInBounds_toArray, List.set_cons_zero, List.set_cons_succ]
  refine wpAnyH_take (i := 1) (oi := { dst := some 232, op := _, type := _, pos := _, after := _, guard := _ }) (v := .int .i64 R) rfl (by kernel_rfl) (by kernel_rfl) (by kernel_rfl) (fun _ _ _ h => h) (Or.inl ⟨by rfl, fun w _ => by go_simp⟩) hHeld ?_
  try simp only [Act.put, List.setIfInBounds_toArray, List.set_cons_zero, List.set_cons_succ]
  refine wpAnyH_take (i := 2) (oi := { dst := some 233, op := _, type := _, pos := _, after := _, guard := _ }) (v := .bool true) rfl (by kernel_rfl) (by kernel_rfl) (by kernel_rfl) (fun _ _ _ h => h) (Or.inl ⟨by rfl, fun w _ => by go_simp⟩) hHeld ?_
  try simp only [Act.put, List.setIfInBounds_toArray, List.set_cons_zero, List.set_cons_succ]
  refine wpAnyH_take (i := 3) (oi := { dst := some 234, op := _, type := _, pos := _, after := _, guard := _ }) (v := .bool true) rfl (by kernel_rfl) (by kernel_rfl) (by kernel_rfl) (fun _ _ _ h => h) (Or.inl ⟨by rfl, fun w _ => by go_simp⟩) hHeld ?_
  try simp only [Act.put, List.setIfInBounds_toArray, List.set_cons_zero, List.set_cons_succ]
  refine wpAnyH_take (i := 4) (oi := { dst := some 235, op := _, type := _, pos := _, after := _, guard := _ }) (v := .pointer (some ⟨g, 0, none⟩)) rfl (by kernel_rfl) (by kernel_rfl) (by kernel_rfl) (fun _ _ _ h => h) (Or.inl ⟨by rfl, fun w _ => by go_simp⟩) hHeld ?_
  try simp only [Act.put, List.setIfInBounds_toArray, List.set_cons_zero, List.set_cons_succ]
  refine wpAnyH_take (i := 7) (oi := { dst := some 238, op := _, type := _, pos := _, after := _, guard := _ }) (v := .bool V.broken) rfl (by kernel_rfl) (by kernel_rfl) (by kernel_rfl) (fun _ _ _ h => h) (Or.inl ⟨by rfl, fun w _ => by go_simp⟩) hHeld ?_
  try simp only [Act.put, List.setIfInBounds_toArray, List.set_cons_zero, List.set_cons_succ]
  refine wpAnyH_take (i := 6) (oi := { dst := some 237, op := .load 30 (.tmp 10), type := _, pos := _, after := _, guard := _ }) (v := .agg cs) rfl (by kernel_rfl) (by kernel_rfl) (by kernel_rfl) (fun _ _ _ h => h) (yieldsIf_load_row (by rfl) 30 _ rfl B2 rfl 30 cs _ (fun W hW => HV3.out.below hW) Try.underlying30 rfl hcz) hHeld ?_
  try simp only [Act.put, List.setIfInBounds_toArray, List.set_cons_zero, List.set_cons_succ]
  refine wpAnyH_ready (rs := [5]) (by kernel_rfl) (by simp) ?_
  refine AllReadyH.cons (o := { dst := some 236, op := _, type := _, pos := _, after := _, guard := _ }) rfl (fun K hK => ?_) AllReadyH.nil
  go_simp
  refine (viewOf_any V g _ ?_).mono ?_
  · exact HV1.out
  rintro e w16 ⟨rfl, b16⟩
  refine hK.out _ _ (below_of_drew b16) (fun hHeld => ?_)
  clear hK K
  try simp only [Act.put, List.setIfInBounds_toArray, List.set_cons_zero, List.set_cons_succ]
  refine wpAnyH_ready (rs := [8]) (by kernel_rfl) (by simp) ?_
  refine AllReadyH.cons (o := { dst := some 239, op := _, type := _, pos := _, after := _, guard := _ }) rfl (fun K hK => ?_) AllReadyH.nil
  go_simp
  refine (HMt.out _ ?_).mono ?_
  · exact below_of_drew b16
  rintro e w17 ⟨rfl, b17⟩
  have b17' : Below w15.heap.size w15 w17 := (below_of_drew b16).trans' b17
  refine hK.out _ _ b17' (fun hHeld => ?_)
  clear hK K
  try simp only [Act.put, List.setIfInBounds_toArray, List.set_cons_zero, List.set_cons_succ]
  refine wpAnyH_take (i := 9) (oi := { dst := some 240, op := _, type := _, pos := _, after := _, guard := _ }) (v := .bool true) rfl (by kernel_rfl) (by kernel_rfl) (by kernel_rfl) (fun _ _ _ h => h) (Or.inl ⟨by rfl, fun w _ => by go_simp⟩) b17' ?_
  try simp only [Act.put, List.setIfInBounds_toArray, List.set_cons_zero, List.set_cons_succ]
  refine wpAnyH_take (i := 10) (oi := { dst := some 6, op := _, type := _, pos := _, after := _, guard := _ }) (v := .bool true) rfl (by kernel_rfl) (by kernel_rfl) (by kernel_rfl) (fun _ _ _ h => h) (Or.inl ⟨by rfl, fun w _ => by go_simp⟩) b17' ?_
  try simp only [Act.put, List.setIfInBounds_toArray, List.set_cons_zero, List.set_cons_succ]
  refine wpAnyH_done (by kernel_rfl) ?_ _
  have HB17 : Hid (Below w.heap.size w w17) := HB15.out.trans (b17'.mono HB15.out.size)
  clear b16 b17 b17' hHeld HB15 HV1 HV3 HMt hcz
  go_wp2_with fail
  go_ret
  exact ⟨rfl, HB17.out⟩
end Go.Proofs.Qxb6602575a
