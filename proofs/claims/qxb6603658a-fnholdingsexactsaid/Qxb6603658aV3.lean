import Derived.Test.Qxb6603658aV1
import Derived.Test.Qxb6603658aV2
import Derived.BigQuiet
import Derived.Deep.QuietTactic
namespace Go.Proofs.Qxb6603658a
open Go.RowKit Go.Maps

theorem sat_get (ss : List ByteArray) (k : Nat) (h : k < ss.length) : sat ss k = ss[k] := by unfold sat; simp [h]
theorem held_built1 (k : Nat) : Try.prog.built 35 [(1, .int .i32 (k : Nat))] = some (hcells (some (false, k))) := by kernel_rfl
theorem held_built2 (k : Nat) : Try.prog.built 35 [(0, .bool true), (1, .int .i32 (k : Nat))] = some (hcells (some (true, k))) := by kernel_rfl

/-- While holdings fills its map. -/
structure HB (w wr : World) (v1 v2 : Value) (n : Nat) (f : ByteArray → Option (Bool × Nat)) (N : Nat) : Prop where
  c0 : wr.cell? ⟨w.heap.size, 0, none⟩ = some v1
  c1 : wr.cell? ⟨w.heap.size, 1, none⟩ = some v2
  map : HM wr (w.heap.size + 1) n f N
  below : Below w.heap.size w wr

theorem HB.grown {w wr wr' : World} {v1 v2 : Value} {n n' N N' : Nat} {f f' : ByteArray → Option (Bool × Nat)} (h : HB w wr v1 v2 n f N) (hm : HM wr' (w.heap.size + 1) n' f' N') (hg : wr.grownBy wr' (some (w.heap.size + 1))) : HB w wr' v1 v2 n' f' N' := by
  have hb : wr'.heap[w.heap.size]? = wr.heap[w.heap.size]? := hg.block w.heap.size (by have := h.map.lt; omega) (by simp)
  exact ⟨by rw [← h.c0]; unfold World.cell?; rw [hb], by rw [← h.c1]; unfold World.cell?; rw [hb], hm, h.below.grown hg h.below.size (fun j hj => by cases hj; omega)⟩

theorem HB.fn {w wr : World} {v1 v2 : Value} {n N N' : Nat} {f f' : ByteArray → Option (Bool × Nat)} (h : HB w wr v1 v2 n f N) (hf : ∀ x, f x = f' x) (hN : N = N') : HB w wr v1 v2 n f' N' := by
  have : f = f' := funext hf
  subst this; subst hN; exact h

theorem hold_some {ds ms : List ByteArray} {x : ByteArray} : (Pl.hold ds ms x).isSome = true ↔ x ∈ ds ++ ms := by
  unfold Pl.hold
  cases h : Pl.last ms x with
  | some j =>
    have : x ∈ ms := List.mem_of_getElem? (Pl.last_some.1 h).1
    simp [this]
  | none =>
    have h1 := Pl.last_none.1 h
    cases h' : Pl.last ds x with
    | some j =>
      have : x ∈ ds := List.mem_of_getElem? (Pl.last_some.1 h').1
      simp [this]
    | none =>
      have h2 := Pl.last_none.1 h'
      simp [h1, h2]

theorem HB.disk {w wr : World} {v1 v2 : Value} {ds : List ByteArray} {k : Nat} (hk : k < ds.length) (h : HB w wr v1 v2 (k + 1) (fun z => if sat ds k = z then some (false, k) else Pl.hold (ds.take k) [] z) (Pl.dsz (ds.take k) + (if (Pl.hold (ds.take k) [] (sat ds k)).isSome then 0 else 1))) :
    HB w wr v1 v2 (k + 1) (Pl.hold (ds.take (k + 1)) []) (Pl.dsz (ds.take (k + 1))) := by
  refine h.fn (fun x => ?_) ?_
  · rw [Pl.hold_disk ds k hk, sat_get ds k hk]
  · rw [Pl.dsz_take ds k hk, sat_get ds k hk]
    have hh := hold_some (ds := ds.take k) (ms := []) (x := ds[k])
    rw [List.append_nil] at hh
    by_cases hx : ds[k] ∈ ds.take k
    · rw [if_pos hx, if_pos (hh.2 hx)]
    · rw [if_neg hx, if_neg (fun h => hx (hh.1 h))]
theorem HB.mem {w wr : World} {v1 v2 : Value} {ds ms : List ByteArray} {n k : Nat} (hk : k < ms.length) (h : HB w wr v1 v2 n (fun z => if sat ms k = z then some (true, k) else Pl.hold ds (ms.take k) z) (Pl.dsz (ds ++ ms.take k) + (if (Pl.hold ds (ms.take k) (sat ms k)).isSome then 0 else 1))) :
    HB w wr v1 v2 n (Pl.hold ds (ms.take (k + 1))) (Pl.dsz (ds ++ ms.take (k + 1))) := by
  refine h.fn (fun x => ?_) ?_
  · rw [Pl.hold_mem ds ms k hk, sat_get ms k hk]
  · rw [Pl.dsz_take2 ds ms k hk, sat_get ms k hk]
    have hh := hold_some (ds := ds) (ms := ms.take k) (x := ms[k])
    by_cases hx : ms[k] ∈ ds ++ ms.take k
    · rw [if_pos hx, if_pos (hh.2 hx)]
    · rw [if_neg hx, if_neg (fun h => hx (hh.1 h))]

set_option maxHeartbeats 1000000 in
set_option maxRecDepth 100000 in
theorem holdings_any (ad am : Option Addr) (cd cm : Nat) (ds ms : List ByteArray) (w : World) (hd : RdS w ad ds) (hm : RdS w am ms) (zd : ∀ k, k < ds.length → (sat ds k).size ≤ maxLen) (zm : ∀ k, k < ms.length → (sat ms k).size ≤ maxLen) (ld : ds.length ≤ 4096) (lm : ms.length ≤ 4096) :
    Calls Try.prog 13 #[.agg #[.slice ad ds.length cd, .slice am ms.length cm]] w fun e w' => ∃ B, e = .returned (.map (some B)) ∧ HM w' B 8192 (Pl.hold ds ms) (Pl.dsz (ds ++ ms)) ∧ Below w.heap.size w w' := by
  have HD : Hid (RdS w ad ds) := hd
  have HMm : Hid (RdS w am ms) := hm
  have ZD : Hid (∀ k, k < ds.length → (sat ds k).size ≤ maxLen) := zd
  have ZM : Hid (∀ k, k < ms.length → (sat ms k).size ≤ maxLen) := zm
  clear hd hm zd zm
  have hmm := run_makeMap_hint
  go_enter Try.func13, Try.ntmps13
  go_wp2_with fail
  go_loopw [19] (fun i wr => ∃ k : Nat, k ≤ ds.length ∧ i = .int .i64 k ∧ HB w wr (.slice ad ds.length cd) (.slice am ms.length cm) k (Pl.hold (ds.take k) []) (Pl.dsz (ds.take k))) (fun i _ => ds.length - (intOf i).toNat)
  case atStart =>
    refine ⟨0, Nat.zero_le _, rfl, ?_⟩
    have h1 := HM.made (w.alloc (.cells #[.slice ad ds.length cd, .slice am ms.length cm] 29))
    rw [World.size_alloc] at h1
    exact ⟨by simp, by simp, h1, ((Below.refl _ _).alloc (Nat.le_refl _) _).alloc (by simp) _⟩
  case round =>
    obtain ⟨k, hk, rfl, hb⟩ := hrel
    by_cases hlt : k < ds.length
    · obtain ⟨b, off, rfl, hcell, hbl⟩ := rds_row (rds_below HD.out hb.below) hlt
      have HBk : Hid (HB w wr (.slice (some ⟨b, off, none⟩) ds.length cd) (.slice am ms.length cm) k (Pl.hold (ds.take k) []) (Pl.dsz (ds.take k))) := hb
      have hmap := hb.map
      have hz := ZD.out k hlt
      clear hb
      go_wp2_with (first | (at_mapUpdate; refine wpList_store_held rfl _ _ _ rfl (w.heap.size + 1) k _ _ (sat ds k) (false, k) rfl rfl rfl (by unfold maxLen; omega) hz hmap ?_; intro w1 h1 hg1) | go_in)
      go_roundw
      case rel => exact ⟨k + 1, hlt, by go_num, (HBk.out.grown h1 hg1).disk hlt⟩
      case measure => simp [intOf]; omega
    · have hkz : k = ds.length := by omega
      subst hkz
      rw [List.take_length] at hb
      have c1 := hb.c1
      have HBk : Hid (HB w wr (.slice ad ds.length cd) (.slice am ms.length cm) ds.length (Pl.hold ds []) (Pl.dsz ds)) := hb
      clear hb
      go_wp2_with fail
      go_loopw [33] (fun i wr => ∃ k : Nat, k ≤ ms.length ∧ i = .int .i64 k ∧ HB w wr (.slice ad ds.length cd) (.slice am ms.length cm) (ds.length + k) (Pl.hold ds (ms.take k)) (Pl.dsz (ds ++ ms.take k))) (fun i _ => ms.length - (intOf i).toNat)
      case atStart =>
        refine ⟨0, Nat.zero_le _, rfl, ?_⟩
        rw [List.take_zero, List.append_nil]
        exact HBk.out
      case round =>
        clear c1 HBk
        obtain ⟨k, hk, rfl, hb⟩ := hrel
        by_cases hlt2 : k < ms.length
        · obtain ⟨b, off, rfl, hcell, hbl⟩ := rds_row (rds_below HMm.out hb.below) hlt2
          have HBk : Hid (HB w wr (.slice ad ds.length cd) (.slice (some ⟨b, off, none⟩) ms.length cm) (ds.length + k) (Pl.hold ds (ms.take k)) (Pl.dsz (ds ++ ms.take k))) := hb
          have hmap := hb.map
          have hz := ZM.out k hlt2
          clear hb
          go_wp2_with (first | (at_mapUpdate; refine wpList_store_held rfl _ _ _ rfl (w.heap.size + 1) (ds.length + k) _ _ (sat ms k) (true, k) rfl rfl rfl (by unfold maxLen; omega) hz hmap ?_; intro w1 h1 hg1) | go_in)
          go_roundw
          case rel => exact ⟨k + 1, hlt2, by go_num, (HBk.out.grown h1 hg1).mem hlt2⟩
          case measure => simp [intOf]; omega
        · have hkz : k = ms.length := by omega
          subst hkz
          rw [List.take_length] at hb
          have HBk : Hid (HB w wr (.slice ad ds.length cd) (.slice am ms.length cm) (ds.length + ms.length) (Pl.hold ds ms) (Pl.dsz (ds ++ ms))) := hb
          clear hb
          go_wp2_with fail
          go_ret
          exact ⟨_, rfl, HBk.out.map.mono (by omega), HBk.out.below⟩

theorem zzHoldings_any (ad am : Option Addr) (cd cm : Nat) (ds ms : List ByteArray) (w : World) (hd : RdS w ad ds) (hm : RdS w am ms) (zd : ∀ k, k < ds.length → (sat ds k).size ≤ maxLen) (zm : ∀ k, k < ms.length → (sat ms k).size ≤ maxLen) (ld : ds.length ≤ 4096) (lm : ms.length ≤ 4096) :
    Calls Try.prog 8 #[.agg #[.slice ad ds.length cd, .slice am ms.length cm]] w fun e w' => ∃ B, e = .returned (.map (some B)) ∧ HM w' B 8192 (Pl.hold ds ms) (Pl.dsz (ds ++ ms)) ∧ Below w.heap.size w w' := by
  have hbel : Below w.heap.size w (w.alloc (.cells #[.slice ad ds.length cd, .slice am ms.length cm] 29)) := (Below.refl _ _).alloc (Nat.le_refl _) _
  have HD : Hid (RdS (w.alloc (.cells #[.slice ad ds.length cd, .slice am ms.length cm] 29)) ad ds) := rds_below hd hbel
  have HMm : Hid (RdS (w.alloc (.cells #[.slice ad ds.length cd, .slice am ms.length cm] 29)) am ms) := rds_below hm hbel
  have ZD : Hid (∀ k, k < ds.length → (sat ds k).size ≤ maxLen) := zd
  have ZM : Hid (∀ k, k < ms.length → (sat ms k).size ≤ maxLen) := zm
  have HBe : Hid (Below w.heap.size w (w.alloc (.cells #[.slice ad ds.length cd, .slice am ms.length cm] 29))) := hbel
  clear hd hm zd zm hbel
  go_enter Try.func8, Try.ntmps8
  go_wp2_with fail
  refine (holdings_any ad am cd cm ds ms _ HD.out HMm.out ZD.out ZM.out ld lm).mono ?_
  rintro e w1 ⟨B, rfl, h1, b1⟩
  have H1 : Hid (HM w1 B 8192 (Pl.hold ds ms) (Pl.dsz (ds ++ ms))) := h1
  have B1 : Hid (Below w.heap.size w w1) := HBe.out.trans (b1.mono (by simp))
  clear h1 b1
  go_wp2_with fail
  go_ret
  exact ⟨_, rfl, H1.out, B1.out⟩

set_option maxHeartbeats 1000000 in
set_option maxRecDepth 100000 in
theorem zzHeld_any (B n N : Nat) (f : ByteArray → Option (Bool × Nat)) (x : ByteArray) (w : World) (h : HM w B n f N) (hx : x.size ≤ maxLen) :
    Calls Try.prog 10 #[.map (some B), .string x] w fun e w' => e = .returned (.tuple #[.bool (f x).isSome, .bool (hm1 (f x)), .int .i32 (ha1 (f x) : Nat), .int .i64 0]) ∧ Below w.heap.size w w' := by
  have H : Hid (HM w B n f N) := h
  clear h
  go_enter Try.func10, Try.ntmps10
  go_wp2_with (first | (at_lookup; refine wpList_look_held rfl _ _ rfl B n N f x rfl rfl hx H.out ?_; unfold hcells) | go_in)
  go_quiet (fail)
  go_wp2_with fail
  refine bodyPost_ret (v := .tuple #[.bool (f x).isSome, .bool (hm1 (f x)), .int .i32 (ha1 (f x) : Nat), .int .i64 0]) (by simp [results, Try.results10, go_sem]) rfl ⟨rfl, ?_⟩
  have hb : Below w.heap.size w (w.alloc (.cells #[.bool (hm1 (f x)), .int .i32 (ha1 (f x) : Nat), .int .i64 0] 35)) := (Below.refl _ _).alloc (Nat.le_refl _) _
  exact ⟨hb.os, hb.tape, hb.output, hb.size, hb.block⟩
end Go.Proofs.Qxb6603658a
