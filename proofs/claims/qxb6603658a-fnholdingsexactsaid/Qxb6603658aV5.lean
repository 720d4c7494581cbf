import Derived.Test.Qxb6603658aV3
import Derived.Test.Qxb6603658aV4
namespace Go.Proofs.Qxb6603658a
open Go.RowKit Go.Maps

theorem held_some (B n N : Nat) (f : ByteArray → Option (Bool × Nat)) (x : ByteArray) (b : Bool) (j : Nat) (w : World) (h : HM w B n f N) (hx : x.size ≤ maxLen) (hf : f x = some (b, j)) :
    Calls Try.prog 10 #[.map (some B), .string x] w fun e w' => e = .returned (.tuple #[.bool true, .bool b, .int .i32 j, .int .i64 0]) ∧ Below w.heap.size w w' := by
  have h1 := zzHeld_any B n N f x w h hx
  rw [hf] at h1
  exact h1
theorem held_none (B n N : Nat) (f : ByteArray → Option (Bool × Nat)) (x : ByteArray) (w : World) (h : HM w B n f N) (hx : x.size ≤ maxLen) (hf : f x = none) :
    Calls Try.prog 10 #[.map (some B), .string x] w fun e w' => e = .returned (.tuple #[.bool false, .bool false, .int .i32 0, .int .i64 0]) ∧ Below w.heap.size w w' := by
  have h1 := zzHeld_any B n N f x w h hx
  rw [hf] at h1
  exact h1

/-- While the law looks at its three maps. -/
structure SP (w wr : World) (ad am : Option Addr) (ds ms : List ByteArray) (A D M : Nat) : Prop where
  disk : RdS wr ad ds
  mem : RdS wr am ms
  all : HM wr A 8192 (Pl.hold ds ms) (Pl.dsz (ds ++ ms))
  dk : HM wr D 8192 (Pl.hold ds []) (Pl.dsz ds)
  mm : HM wr M 8192 (Pl.hold [] ms) (Pl.dsz ms)
  below : Below w.heap.size w wr
theorem SP.call {w wr wr' : World} {ad am : Option Addr} {ds ms : List ByteArray} {A D M : Nat} (h : SP w wr ad am ds ms A D M) (hb : Below wr.heap.size wr wr') : SP w wr' ad am ds ms A D M :=
  ⟨rds_below h.disk hb, rds_below h.mem hb, h.all.kept hb, h.dk.kept hb, h.mm.kept hb, h.below.trans (hb.mono h.below.size)⟩

theorem hold_in {ds ms : List ByteArray} {x : ByteArray} {j : Nat} (h : Pl.last ms x = some j) : Pl.hold ds ms x = some (true, j) := by unfold Pl.hold; rw [h]
theorem hold_out {ds ms : List ByteArray} {x : ByteArray} (h : Pl.last ms x = none) : Pl.hold ds ms x = Pl.hold ds [] x := by unfold Pl.hold; rw [h]; rfl
theorem hold_disk1 {ds : List ByteArray} {x : ByteArray} {j : Nat} (h : Pl.last ds x = some j) : Pl.hold ds [] x = some (false, j) := by unfold Pl.hold; rw [h]; rfl
theorem last_sat {ss : List ByteArray} {k : Nat} (h : k < ss.length) : ∃ j, Pl.last ss (sat ss k) = some j := Pl.last_mem (by rw [sat_get ss k h]; exact List.getElem_mem h)

theorem Below.trans2 {a b c : World} (h : Below a.heap.size a b) (k : Below b.heap.size b c) : Below a.heap.size a c := h.trans (k.mono h.size)

set_option maxHeartbeats 2000000 in
set_option maxRecDepth 100000 in
theorem splits_any (ad am : Option Addr) (cd cm : Nat) (ds ms : List ByteArray) (w : World) (hd : RdS w ad ds) (hm : RdS w am ms) (nd : ad = none → cd = 0) (nm : am = none → cm = 0) (zd : ∀ k, k < ds.length → (sat ds k).size ≤ maxLen) (zm : ∀ k, k < ms.length → (sat ms k).size ≤ maxLen) :
    Calls Try.prog 4 #[.slice ad ds.length cd, .slice am ms.length cm] w fun e w' => e = .returned (.bool true) ∧ Below w.heap.size w w' := by
  have hl1 := hd.1
  have hl2 := hm.1
  unfold maxLen at hl1 hl2
  have HD : Hid (RdS w ad ds) := hd
  have HMm : Hid (RdS w am ms) := hm
  have ND : Hid (ad = none → cd = 0) := nd
  have NM : Hid (am = none → cm = 0) := nm
  have ZD : Hid (∀ k, k < ds.length → (sat ds k).size ≤ maxLen) := zd
  have ZM : Hid (∀ k, k < ms.length → (sat ms k).size ≤ maxLen) := zm
  clear hd hm nd nm zd zm
  go_enter Try.func4, Try.ntmps4
  go_wp2_with fail
  refine (zzBytes12 ad am cd cm ds ms _ HD.out HMm.out ZD.out ZM.out).mono ?_
  rintro e w1 ⟨b, rfl, hw⟩
  replace hw := hw.symm
  subst hw
  cases b with
  | false =>
    go_wp2_with fail
    go_ret
    exact ⟨rfl, Below.refl _ _⟩
  | true =>
  by_cases h1 : ds.length ≤ 4096
  case neg =>
    go_wp2_with fail
    go_ret
    exact ⟨rfl, Below.refl _ _⟩
  by_cases h2 : ms.length ≤ 4096
  case neg =>
    go_wp2_with fail
    go_ret
    exact ⟨rfl, Below.refl _ _⟩
  go_wp2_with fail
  refine (bytes_any ad cd ds _ HD.out ZD.out).mono ?_
  rintro e w1 ⟨T1, rfl, hT1, hw⟩
  replace hw := hw.symm
  subst hw
  go_wp2_with fail
  refine (bytes_any am cm ms _ HMm.out ZM.out).mono ?_
  rintro e w1 ⟨T2, rfl, hT2, hw⟩
  replace hw := hw.symm
  subst hw
  by_cases h3 : T1 + T2 ≤ 1048576
  case neg =>
    go_wp2_with fail
    go_ret
    exact ⟨rfl, Below.refl _ _⟩
  go_wp2_with fail
  refine (cloneStrs_any ad _ cd ds _ HD.out rfl ND.out (by omega)).mono ?_
  rintro e w1 ⟨ad1, rfl, ho1, b1⟩
  have HD1 : Hid (RdS w1 ad1 ds) := rds_of_owns ho1
  have HM1 : Hid (RdS w1 am ms) := rds_below HMm.out b1
  have HB1 : Hid (Below w.heap.size w w1) := b1
  clear ho1 b1
  go_wp2_with fail
  refine (cloneStrs_any am _ cm ms _ HM1.out rfl NM.out (by omega)).mono ?_
  rintro e w2 ⟨am2, rfl, ho2, b2⟩
  have HD2 : Hid (RdS w2 ad1 ds) := rds_below HD1.out b2
  have HM2 : Hid (RdS w2 am2 ms) := rds_of_owns ho2
  have HB2 : Hid (Below w.heap.size w w2) := Below.trans2 HB1.out b2
  clear ho2 b2 HD1 HM1 HB1
  go_wp2_with fail
  refine (zzHoldings_any ad1 am2 _ _ ds ms _ HD2.out HM2.out ZD.out ZM.out h1 h2).mono ?_
  rintro e w3 ⟨A, rfl, hA, b3⟩
  have HA3 : Hid (HM w3 A 8192 (Pl.hold ds ms) (Pl.dsz (ds ++ ms))) := hA
  have HD3 : Hid (RdS w3 ad1 ds) := rds_below HD2.out b3
  have HM3 : Hid (RdS w3 am2 ms) := rds_below HM2.out b3
  have HB3 : Hid (Below w.heap.size w w3) := Below.trans2 HB2.out b3
  clear hA b3 HD2 HM2 HB2
  go_wp2_with fail
  refine (zzHoldings_any ad1 none _ 0 ds [] _ HD3.out (rds_nil _ _) ZD.out (fun k hk => absurd hk (Nat.not_lt_zero k)) h1 (Nat.zero_le _)).mono ?_
  rintro e w4 ⟨D, rfl, hD, b4⟩
  rw [List.append_nil] at hD
  have HDk : Hid (HM w4 D 8192 (Pl.hold ds []) (Pl.dsz ds)) := hD
  have HA4 : Hid (HM w4 A 8192 (Pl.hold ds ms) (Pl.dsz (ds ++ ms))) := HA3.out.kept b4
  have HD4 : Hid (RdS w4 ad1 ds) := rds_below HD3.out b4
  have HM4 : Hid (RdS w4 am2 ms) := rds_below HM3.out b4
  have HB4 : Hid (Below w.heap.size w w4) := Below.trans2 HB3.out b4
  clear hD b4 HD3 HM3 HB3 HA3
  go_wp2_with fail
  refine (zzHoldings_any none am2 0 _ [] ms _ (rds_nil _ _) HM4.out (fun k hk => absurd hk (Nat.not_lt_zero k)) ZM.out (Nat.zero_le _) h2).mono ?_
  rintro e w5 ⟨M, rfl, hM, b5⟩
  have HS : Hid (SP w w5 ad1 am2 ds ms A D M) := ⟨rds_below HD4.out b5, rds_below HM4.out b5, HA4.out.kept b5, HDk.out.kept b5, hM, Below.trans2 HB4.out b5⟩
  clear hM b5 HD4 HM4 HB4 HA4 HDk
  go_wp2_with fail
  go_loopw [8] (fun t wr => ∃ k : Nat, k ≤ ms.length ∧ t = .int .i64 k ∧ SP w wr ad1 am2 ds ms A D M) (fun t _ => ms.length - (intOf t).toNat)
  case atStart => exact ⟨0, Nat.zero_le _, rfl, HS.out⟩
  case round =>
    clear HS w5
    obtain ⟨k, hk, rfl, hs⟩ := hrel
    have HS : Hid (SP w wr ad1 am2 ds ms A D M) := hs
    clear hs
    by_cases hlt : k < ms.length
    · obtain ⟨b, off, rfl, hcell, hbl⟩ := rds_row HS.out.mem hlt
      have hz := ZM.out k hlt
      obtain ⟨j, hj⟩ := last_sat hlt
      have HJ : Hid (Pl.last ms (sat ms k) = some j) := hj
      have hjl : j < ms.length := Pl.last_lt hj
      clear hj
      go_wp2_with fail
      refine (held_some A _ _ _ _ true j _ HS.out.all hz (hold_in HJ.out)).mono ?_
      rintro e w6 ⟨rfl, b6⟩
      have HS6 : Hid (SP w w6 ad1 (some ⟨b, off, none⟩) ds ms A D M) := HS.out.call b6
      have hcell6 : w6.cell? ⟨b, off + k, none⟩ = some (.string (sat ms k)) := by
        obtain ⟨b', off', e1, e2, _⟩ := rds_row HS6.out.mem hlt
        cases e1; exact e2
      clear b6 HS hcell
      go_wp2_with fail
      refine (held_some M _ _ _ _ true j _ HS6.out.mm hz (hold_in HJ.out)).mono ?_
      rintro e w7 ⟨rfl, b7⟩
      have HS7 : Hid (SP w w7 ad1 (some ⟨b, off, none⟩) ds ms A D M) := HS6.out.call b7
      clear b7 HS6 hcell6
      go_wp2_with fail
      go_roundw
      case rel => exact ⟨k + 1, hlt, by go_num, HS7.out⟩
      case measure => simp [intOf]; omega
    · go_wp2_with fail
      go_loopw [17, 18] (fun t u wr => ∃ ov k : Nat, k ≤ ds.length ∧ ov ≤ k ∧ ov + Pl.ovl ms (ds.drop k) = Pl.ovl ms ds ∧ t = .int .i64 ov ∧ u = .int .i64 k ∧ SP w wr ad1 am2 ds ms A D M) (fun _ u _ => ds.length - (intOf u).toNat)
      case atStart => exact ⟨0, 0, Nat.zero_le _, Nat.le_refl _, by simp, rfl, rfl, HS.out⟩
      case round =>
        clear HS hlt hk
        obtain ⟨ov, k, hk, hok, hov, rfl, rfl, hs⟩ := hrel
        have HS : Hid (SP w wr ad1 am2 ds ms A D M) := hs
        have HOv : Hid (ov + Pl.ovl ms (ds.drop k) = Pl.ovl ms ds) := hov
        clear hs hov
        by_cases hlt : k < ds.length
        · obtain ⟨b, off, rfl, hcell, hbl⟩ := rds_row HS.out.disk hlt
          have hz := ZD.out k hlt
          obtain ⟨j, hj⟩ := last_sat hlt
          have HJ : Hid (Pl.last ds (sat ds k) = some j) := hj
          have hjl : j < ds.length := Pl.last_lt hj
          clear hj
          cases hmx : Pl.last ms (sat ds k) with
          | some q =>
            have HMx : Hid (Pl.last ms (sat ds k) = some q) := hmx
            clear hmx
            go_wp2_with fail
            refine (held_some M _ _ _ _ true q _ HS.out.mm hz (hold_in HMx.out)).mono ?_
            rintro e w6 ⟨rfl, b6⟩
            have HS6 : Hid (SP w w6 (some ⟨b, off, none⟩) am2 ds ms A D M) := HS.out.call b6
            have hcell6 : w6.cell? ⟨b, off + k, none⟩ = some (.string (sat ds k)) := by
              obtain ⟨b', off', e1, e2, _⟩ := rds_row HS6.out.disk hlt
              cases e1; exact e2
            clear b6 HS hcell
            go_wp2_with fail
            refine (held_some D _ _ _ _ false j _ HS6.out.dk hz (hold_disk1 HJ.out)).mono ?_
            rintro e w7 ⟨rfl, b7⟩
            have HS7 : Hid (SP w w7 (some ⟨b, off, none⟩) am2 ds ms A D M) := HS6.out.call b7
            clear b7 HS6 hcell6
            by_cases hjk : j = k
            · have hb : ((j : Int) == (k : Int)) = true := by rw [beq_iff_eq]; omega
              have HE : Hid (ov + 1 + Pl.ovl ms (ds.drop (k + 1)) = Pl.ovl ms ds) := by
                show _ = _
                rw [← HOv.out, Pl.ovl_drop ms ds k hlt]
                have h1 := HJ.out
                rw [hjk] at h1
                have h2 := (Pl.last_some.1 h1).2
                have h3 : sat ds k ∈ ms := List.mem_of_getElem? (Pl.last_some.1 HMx.out).1
                rw [sat_get ds k hlt] at h2 h3
                rw [if_pos ⟨h3, h2⟩]; omega
              clear hjk
              go_wp2_with fail
              go_roundw
              case rel => exact ⟨ov + 1, k + 1, hlt, by omega, HE.out, by go_num, by go_num, HS7.out⟩
              case measure => simp [intOf]; omega
            · have hb : ((j : Int) == (k : Int)) = false := by rw [beq_eq_false_iff_ne]; omega
              have HE : Hid (ov + Pl.ovl ms (ds.drop (k + 1)) = Pl.ovl ms ds) := by
                show _ = _
                rw [← HOv.out, Pl.ovl_drop ms ds k hlt]
                have h2 : ¬ (ds[k] ∈ ms ∧ ds[k] ∉ ds.drop (k + 1)) := by
                  rintro ⟨_, h4⟩
                  rw [← sat_get ds k hlt] at h4
                  have h5 := Pl.last_some.2 ⟨(by rw [List.getElem?_eq_getElem hlt, sat_get ds k hlt] : ds[k]? = some (sat ds k)), h4⟩
                  rw [HJ.out] at h5
                  exact hjk (Option.some.inj h5)
                rw [if_neg h2]; omega
              clear hjk
              go_wp2_with fail
              go_roundw
              case rel => exact ⟨ov, k + 1, hlt, by omega, HE.out, rfl, by go_num, HS7.out⟩
              case measure => simp [intOf]; omega
          | none =>
            have HMx : Hid (Pl.last ms (sat ds k) = none) := hmx
            clear hmx
            have HE : Hid (ov + Pl.ovl ms (ds.drop (k + 1)) = Pl.ovl ms ds) := by
              show _ = _
              rw [← HOv.out, Pl.ovl_drop ms ds k hlt]
              have h2 : ¬ (ds[k] ∈ ms ∧ ds[k] ∉ ds.drop (k + 1)) := by
                rintro ⟨h4, _⟩
                rw [← sat_get ds k hlt] at h4
                exact Pl.last_none.1 HMx.out h4
              rw [if_neg h2]; omega
            go_wp2_with fail
            refine (held_none M _ _ _ _ _ HS.out.mm hz (by rw [hold_out HMx.out]; rfl)).mono ?_
            rintro e w6 ⟨rfl, b6⟩
            have HS6 : Hid (SP w w6 (some ⟨b, off, none⟩) am2 ds ms A D M) := HS.out.call b6
            have hcell6 : w6.cell? ⟨b, off + k, none⟩ = some (.string (sat ds k)) := by
              obtain ⟨b', off', e1, e2, _⟩ := rds_row HS6.out.disk hlt
              cases e1; exact e2
            clear b6 HS hcell
            go_wp2_with fail
            refine (held_some D _ _ _ _ false j _ HS6.out.dk hz (hold_disk1 HJ.out)).mono ?_
            rintro e w7 ⟨rfl, b7⟩
            have HS7 : Hid (SP w w7 (some ⟨b, off, none⟩) am2 ds ms A D M) := HS6.out.call b7
            have hcell7 : w7.cell? ⟨b, off + k, none⟩ = some (.string (sat ds k)) := by
              obtain ⟨b', off', e1, e2, _⟩ := rds_row HS7.out.disk hlt
              cases e1; exact e2
            clear b7 HS6 hcell6
            go_wp2_with fail
            refine (held_some A _ _ _ _ false j _ HS7.out.all hz (by rw [hold_out HMx.out]; exact hold_disk1 HJ.out)).mono ?_
            rintro e w8 ⟨rfl, b8⟩
            have HS8 : Hid (SP w w8 (some ⟨b, off, none⟩) am2 ds ms A D M) := HS7.out.call b8
            clear b8 HS7 hcell7
            go_wp2_with fail
            go_roundw
            case rel => exact ⟨ov, k + 1, hlt, by omega, HE.out, rfl, by go_num, HS8.out⟩
            case measure => simp [intOf]; omega
        · have hkz : k = ds.length := by omega
          have HFin : Hid (((Pl.dsz (ds ++ ms) : Nat) : Int) = (Pl.dsz ds : Nat) + (Pl.dsz ms : Nat) - (ov : Nat)) := by
            show _ = _
            have h1 := HOv.out
            rw [hkz, List.drop_length] at h1
            have h2 := Pl.dsz_append ms ds
            have h3 : Pl.ovl ms ([] : List ByteArray) = 0 := rfl
            omega
          have hd1 := Pl.dsz_le ds
          have hd2 := Pl.dsz_le ms
          have hd3 := Pl.dsz_le (ds ++ ms)
          rw [List.length_append] at hd3
          go_wp2_with (first | (at_len; refine wpList_len_held rfl _ rfl A _ _ _ rfl HS.out.all ?_) | (at_len; refine wpList_len_held rfl _ rfl D _ _ _ rfl HS.out.dk ?_) | (at_len; refine wpList_len_held rfl _ rfl M _ _ _ rfl HS.out.mm ?_) | go_in)
          go_ret
          refine ⟨?_, HS.out.below⟩
          show Ending.returned (.bool (((Pl.dsz (ds ++ ms) : Nat) : Int) == (Pl.dsz ds : Nat) + (Pl.dsz ms : Nat) - (ov : Nat))) = _
          rw [beq_iff_eq.2 HFin.out]
end Go.Proofs.Qxb6603658a
