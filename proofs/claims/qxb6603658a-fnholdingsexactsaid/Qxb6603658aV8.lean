import Derived.Test.Qxb6603658aV5
import Derived.Test.Qxb6603658aV7
namespace Go.Proofs.Qxb6603658a
open Go.RowKit Go.Maps

/-- While the law looks at its map. -/
structure SX (w wr : World) (ad am : Option Addr) (ds ms : List ByteArray) (A : Nat) : Prop where
  disk : RdS wr ad ds
  mem : RdS wr am ms
  all : HM wr A 8192 (Pl.hold ds ms) (Pl.dsz (ds ++ ms))
  below : Below w.heap.size w wr
theorem SX.call {w wr wr' : World} {ad am : Option Addr} {ds ms : List ByteArray} {A : Nat} (h : SX w wr ad am ds ms A) (hb : Below wr.heap.size wr wr') : SX w wr' ad am ds ms A :=
  ⟨rds_below h.disk hb, rds_below h.mem hb, h.all.kept hb, h.below.trans (hb.mono h.below.size)⟩

set_option maxHeartbeats 2000000 in
set_option maxRecDepth 100000 in
theorem exact_any (ad am : Option Addr) (cd cm : Nat) (ds ms : List ByteArray) (w : World) (hd : RdS w ad ds) (hm : RdS w am ms) (nd : ad = none → cd = 0) (nm : am = none → cm = 0) (zd : ∀ k, k < ds.length → (sat ds k).size ≤ maxLen) (zm : ∀ k, k < ms.length → (sat ms k).size ≤ maxLen) :
    Calls Try.prog 3 #[.slice ad ds.length cd, .slice am ms.length cm] w fun e w' => e = .returned (.bool true) ∧ Below w.heap.size w w' := by
  have hl1 := hd.1
  have hl2 := hm.1
  unfold maxLen at hl1 hl2
  have HD : Hid (RdS w ad ds) := hd
  have HMm : Hid (RdS w am ms) := hm
  have ND : Hid (ad = none → cd = 0) := nd
  have NM : Hid (am = none → cm = 0) := nm
  have ZD : Hid (∀ k, k < ds.length → (sat ds k).size ≤ maxLen) := zd
  have ZM : Hid (∀ k, k < ms.length → (sat ms k).size ≤ maxLen) := zm
  clear hd hm nd nm zd zm
  go_enter Try.func3, Try.ntmps3
  go_wp2_with fail
  refine (zzBytes5 ad am cd cm ds ms _ HD.out HMm.out ZD.out ZM.out).mono ?_
  rintro e w1 ⟨b, rfl, hw⟩
  replace hw := hw.symm
  subst hw
  cases b with
  | false =>
    go_wp2_with fail
    go_ret
    exact ⟨rfl, Below.refl _ _⟩
  | true =>
  by_cases h1 : ds.length ≤ 4096
  case neg =>
    go_wp2_with fail
    go_ret
    exact ⟨rfl, Below.refl _ _⟩
  by_cases h2 : ms.length ≤ 4096
  case neg =>
    go_wp2_with fail
    go_ret
    exact ⟨rfl, Below.refl _ _⟩
  go_wp2_with fail
  refine (bytes_any ad cd ds _ HD.out ZD.out).mono ?_
  rintro e w1 ⟨T1, rfl, hT1, hw⟩
  replace hw := hw.symm
  subst hw
  go_wp2_with fail
  refine (bytes_any am cm ms _ HMm.out ZM.out).mono ?_
  rintro e w1 ⟨T2, rfl, hT2, hw⟩
  replace hw := hw.symm
  subst hw
  by_cases h3 : T1 + T2 ≤ 1048576
  case neg =>
    go_wp2_with fail
    go_ret
    exact ⟨rfl, Below.refl _ _⟩
  go_wp2_with fail
  refine (cloneStrs_any ad _ cd ds _ HD.out rfl ND.out (by omega)).mono ?_
  rintro e w1 ⟨ad1, rfl, ho1, b1⟩
  have HD1 : Hid (RdS w1 ad1 ds) := rds_of_owns ho1
  have HM1 : Hid (RdS w1 am ms) := rds_below HMm.out b1
  have HB1 : Hid (Below w.heap.size w w1) := b1
  clear ho1 b1
  go_wp2_with fail
  refine (cloneStrs_any am _ cm ms _ HM1.out rfl NM.out (by omega)).mono ?_
  rintro e w2 ⟨am2, rfl, ho2, b2⟩
  have HD2 : Hid (RdS w2 ad1 ds) := rds_below HD1.out b2
  have HM2 : Hid (RdS w2 am2 ms) := rds_of_owns ho2
  have HB2 : Hid (Below w.heap.size w w2) := Below.trans2 HB1.out b2
  clear ho2 b2 HD1 HM1 HB1
  go_wp2_with fail
  refine (zzHoldings_any ad1 am2 _ _ ds ms _ HD2.out HM2.out ZD.out ZM.out h1 h2).mono ?_
  rintro e w3 ⟨A, rfl, hA, b3⟩
  have HA3 : Hid (HM w3 A 8192 (Pl.hold ds ms) (Pl.dsz (ds ++ ms))) := hA
  have HD3 : Hid (RdS w3 ad1 ds) := rds_below HD2.out b3
  have HM3 : Hid (RdS w3 am2 ms) := rds_below HM2.out b3
  have HB3 : Hid (Below w.heap.size w w3) := Below.trans2 HB2.out b3
  clear hA b3 HD2 HM2 HB2
  have HS : Hid (SX w w3 ad1 am2 ds ms A) := ⟨HD3.out, HM3.out, HA3.out, HB3.out⟩
  clear HA3 HD3 HM3 HB3
  have hd3 := Pl.dsz_le (ds ++ ms)
  rw [List.length_append] at hd3
  go_wp2_with (at_len; refine wpList_len_held rfl _ rfl A _ _ _ rfl HS.out.all ?_)
  refine (distinct_any ad1 am2 _ _ ds ms _ HS.out.disk HS.out.mem h1 h2).mono ?_
  rintro e w4 ⟨rfl, hw⟩
  replace hw := hw.symm
  subst hw
  go_wp2_with fail
  go_loopw [6] (fun t wr => ∃ k : Nat, k ≤ ds.length + ms.length ∧ t = .int .i64 k ∧ SX w wr ad1 am2 ds ms A) (fun t _ => ds.length + ms.length - (intOf t).toNat)
  case atStart => exact ⟨0, Nat.zero_le _, rfl, HS.out⟩
  case round =>
    clear HS w3
    obtain ⟨k, hk, rfl, hs⟩ := hrel
    have HS : Hid (SX w wr ad1 am2 ds ms A) := hs
    clear hs
    by_cases hkl : k < ds.length
    · obtain ⟨b, off, rfl, hcell, hbl⟩ := rds_row HS.out.disk hkl
      have hz := ZD.out _ hkl
      have HIn : Hid (sat ds k ∈ ds) := List.mem_of_getElem? (sat_get' ds k hkl)
      generalize sat ds k = x at hcell hz HIn
      cases hmx : Pl.last ms x with
      | some q =>
        have HMx : Hid (Pl.last ms x = some q) := hmx
        have hql : q < ms.length := Pl.last_lt hmx
        clear hmx
        go_wp2_with fail
        refine (held_some A _ _ _ _ true q _ HS.out.all hz (hold_in HMx.out)).mono ?_
        rintro e w6 ⟨rfl, b6⟩
        have HS6 : Hid (SX w w6 (some ⟨b, off, none⟩) am2 ds ms A) := HS.out.call b6
        clear b6 HS hcell
        go_wp2_with fail
        refine (lastIndex_any _ _ ms x _ HS6.out.mem).mono ?_
        rintro e w7 ⟨hw, ⟨h1, _⟩ | ⟨q2, h1, rfl⟩⟩
        · rw [HMx.out] at h1; cases h1
        · replace hw := hw.symm
          subst hw
          rw [HMx.out] at h1
          cases h1
          go_wp2_with fail
          go_roundw
          case rel => exact ⟨k + 1, by omega, by go_num, HS6.out⟩
          case measure => simp [intOf]; omega
      | none =>
        have HMx : Hid (Pl.last ms x = none) := hmx
        clear hmx
        have hin : x ∈ ds := HIn.out
        obtain ⟨j, hj⟩ := Pl.last_mem hin
        have HJ : Hid (Pl.last ds x = some j) := hj
        have hjl : j < ds.length := Pl.last_lt hj
        clear hj hin
        go_wp2_with fail
        refine (held_some A _ _ _ _ false j _ HS.out.all hz (by rw [hold_out HMx.out]; exact hold_disk1 HJ.out)).mono ?_
        rintro e w6 ⟨rfl, b6⟩
        have HS6 : Hid (SX w w6 (some ⟨b, off, none⟩) am2 ds ms A) := HS.out.call b6
        clear b6 HS hcell
        go_wp2_with fail
        refine (lastIndex_any _ _ ms x _ HS6.out.mem).mono ?_
        rintro e w7 ⟨hw, ⟨h1, rfl⟩ | ⟨q2, h1, _⟩⟩
        · replace hw := hw.symm
          subst hw
          clear h1
          go_wp2_with fail
          refine (lastIndex_any _ _ ds x _ HS6.out.disk).mono ?_
          rintro e w7 ⟨hw, ⟨h1, _⟩ | ⟨q2, h1, rfl⟩⟩
          · rw [HJ.out] at h1; cases h1
          · replace hw := hw.symm
            subst hw
            rw [HJ.out] at h1
            cases h1
            go_wp2_with fail
            go_roundw
            case rel => exact ⟨k + 1, by omega, by go_num, HS6.out⟩
            case measure => simp [intOf]; omega
        · rw [HMx.out] at h1; cases h1
    · by_cases hlt : k < ds.length + ms.length
      · have hkl : k - ds.length < ms.length := by omega
        obtain ⟨b, off, rfl, hcell, hbl⟩ := rds_row HS.out.mem hkl
        have hz := ZM.out _ hkl
        have HIn : Hid (sat ms (k - ds.length) ∈ ms) := List.mem_of_getElem? (sat_get' ms (k - ds.length) hkl)
        generalize sat ms (k - ds.length) = x at hcell hz HIn
        cases hmx : Pl.last ms x with
        | some q =>
          have HMx : Hid (Pl.last ms x = some q) := hmx
          have hql : q < ms.length := Pl.last_lt hmx
          clear hmx
          go_wp2_with fail
          refine (held_some A _ _ _ _ true q _ HS.out.all hz (hold_in HMx.out)).mono ?_
          rintro e w6 ⟨rfl, b6⟩
          have HS6 : Hid (SX w w6 ad1 (some ⟨b, off, none⟩) ds ms A) := HS.out.call b6
          clear b6 HS hcell
          go_wp2_with fail
          refine (lastIndex_any _ _ ms x _ HS6.out.mem).mono ?_
          rintro e w7 ⟨hw, ⟨h1, _⟩ | ⟨q2, h1, rfl⟩⟩
          · rw [HMx.out] at h1; cases h1
          · replace hw := hw.symm
            subst hw
            rw [HMx.out] at h1
            cases h1
            go_wp2_with fail
            go_roundw
            case rel => exact ⟨k + 1, by omega, by go_num, HS6.out⟩
            case measure => simp [intOf]; omega
        | none =>
          have HMx : Hid (Pl.last ms x = none) := hmx
          clear hmx
          have hin : x ∈ ds := absurd HIn.out (Pl.last_none.1 HMx.out)
          obtain ⟨j, hj⟩ := Pl.last_mem hin
          have HJ : Hid (Pl.last ds x = some j) := hj
          have hjl : j < ds.length := Pl.last_lt hj
          clear hj hin
          go_wp2_with fail
          refine (held_some A _ _ _ _ false j _ HS.out.all hz (by rw [hold_out HMx.out]; exact hold_disk1 HJ.out)).mono ?_
          rintro e w6 ⟨rfl, b6⟩
          have HS6 : Hid (SX w w6 ad1 (some ⟨b, off, none⟩) ds ms A) := HS.out.call b6
          clear b6 HS hcell
          go_wp2_with fail
          refine (lastIndex_any _ _ ms x _ HS6.out.mem).mono ?_
          rintro e w7 ⟨hw, ⟨h1, rfl⟩ | ⟨q2, h1, _⟩⟩
          · replace hw := hw.symm
            subst hw
            clear h1
            go_wp2_with fail
            refine (lastIndex_any _ _ ds x _ HS6.out.disk).mono ?_
            rintro e w7 ⟨hw, ⟨h1, _⟩ | ⟨q2, h1, rfl⟩⟩
            · rw [HJ.out] at h1; cases h1
            · replace hw := hw.symm
              subst hw
              rw [HJ.out] at h1
              cases h1
              go_wp2_with fail
              go_roundw
              case rel => exact ⟨k + 1, by omega, by go_num, HS6.out⟩
              case measure => simp [intOf]; omega
          · rw [HMx.out] at h1; cases h1
      · go_wp2_with fail
        go_ret
        exact ⟨rfl, HS.out.below⟩
end Go.Proofs.Qxb6603658a
