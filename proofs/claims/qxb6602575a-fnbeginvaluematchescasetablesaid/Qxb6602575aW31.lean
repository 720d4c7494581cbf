import Derived.Test.Qxb6602575aW29
namespace Go.Proofs.Qxb6602575a
open Go.RowKit

/-- The kept slice's row lies behind block B, the other rows ahead of it. -/
structure Apart (B base : Nat) (s : Str) (C : Con) (w : World) : Prop where
  low : base ≤ B
  high : B ≤ w.heap.size
  path : ∀ j, s.path.v.ownBlock = some j → j < B
  closers : ∀ j, s.closers.v.ownBlock = some j → j < B
  name : ∀ j, s.name.v.ownBlock = some j → j < B
  kept : w.ownsRow B 5 1 s.kept.v s.kept.n (bys C.kept)
theorem Apart.row {B base g : Nat} {s : Str} {C : Con} {w : World} {cs cs' : Array Value} (h : Apart B base s C w) (hg : Blk w g 30 cs) : Apart B base s C (w.setRow g cs') :=
  ⟨h.low, by rw [setRow_size]; exact h.high, h.path, h.closers, h.name, own_row h.kept hg (by decide)⟩
theorem Apart.below {B base : Nat} {s : Str} {C : Con} {w w' : World} (h : Apart B base s C w) (hb : Below w.heap.size w w') : Apart B base s C w' :=
  ⟨h.low, Nat.le_trans h.high hb.size, h.path, h.closers, h.name, owns_below h.kept hb⟩

/-- The world as it was before block B was made. -/
def trunc (w : World) (B : Nat) : World := { w with heap := w.heap.extract 0 B }
theorem trunc_size {w : World} {B : Nat} (h : B ≤ w.heap.size) : (trunc w B).heap.size = B := by show (w.heap.extract 0 B).size = B; rw [Array.size_extract]; omega
theorem trunc_get {w : World} {B k : Nat} (hk : k < B) (h : B ≤ w.heap.size) : (trunc w B).heap[k]? = w.heap[k]? := by
  show (w.heap.extract 0 B)[k]? = _
  rw [Array.getElem?_eq_getElem (by rw [Array.size_extract]; omega), Array.getElem?_eq_getElem (by omega)]
  simp
theorem trunc_below {w : World} {B : Nat} (h : B ≤ w.heap.size) : Below B (trunc w B) w := ⟨rfl, rfl, rfl, by rw [trunc_size h]; exact h, fun k hk => (trunc_get hk h).symm⟩
theorem below_to_trunc {a w : World} {B : Nat} (h : Below a.heap.size a w) (hB : a.heap.size ≤ B) (hB2 : B ≤ w.heap.size) : Below a.heap.size a (trunc w B) :=
  ⟨h.os, h.tape, h.output, by rw [trunc_size hB2]; exact hB, fun k hk => by rw [trunc_get (by omega) hB2]; exact h.block k hk⟩
theorem own_trunc {w : World} {B base e n : Nat} {v : Value} {xs : List Value} (h : w.ownsRow base e 1 v n xs) (hB : B ≤ w.heap.size) (hv : ∀ j, v.ownBlock = some j → j < B) : (trunc w B).ownsRow base e 1 v n xs := by
  obtain ⟨hl, h | ⟨g, cap, cur, h1, h2, h3, r⟩⟩ := h
  · exact ⟨hl, .inl h⟩
  · refine ⟨hl, .inr ⟨g, cap, cur, h1, h2, ?_, r⟩⟩
    rw [trunc_get (hv g (by rw [h1]; rfl)) hB]; exact h3

set_option maxHeartbeats 2000000 in
set_option maxRecDepth 100000 in
theorem cloneStream2 (s : Str) (C : Con) (w : World) (hr : Reads w s C) (hs : Sound s) :
    Calls Try.prog 18 #[.agg s.cells30] w fun e w' => ∃ p c n k B, e = .returned (.agg (s.with4 p c n k).cells30) ∧ Owned w' w.heap.size (s.with4 p c n k) C ∧ Below w.heap.size w w' ∧ Apart B w.heap.size (s.with4 p c n k) C w' := by
  have HR : Hid (Reads w s C) := hr
  have HS : Hid (Sound s) := hs
  clear hr hs
  go_enter Try.func18, Try.ntmps18
  go_upto_region 1 with fail
  go_cut [3] (fun t wx => t = .pointer (some ⟨w.heap.size + 2, 0, none⟩) ∧ Blk wx w.heap.size 30 s.cells30 ∧ (∃ z : Array Value, z.size = 20 ∧ Blk wx (w.heap.size + 1) 30 z) ∧ Blk wx (w.heap.size + 2) 30 s.cells30 ∧ Below w.heap.size w wx ∧ wx.heap.size = w.heap.size + 3)
  case first =>
    go_wp2_with (first
      | (refine wpList_load_row (o := { dst := some 4, op := .load 30 (.tmp 1), type := _, pos := _, after := _, guard := _ }) rfl 30 _ rfl w.heap.size rfl 30 s.cells30 (0, 0) _ ((Blk.last w 30 s.cells30).alloc _) Try.underlying30 rfl Try.info30 ?_)
      | (refine wpList_store_newg (o := { dst := none, op := .store 30 (.tmp 3) (.tmp 4), type := _, pos := _, after := _, guard := _ }) rfl 30 _ _ rfl s.cells30 _ (w.heap.size + 2) (by simp) rfl rfl Try.info30 rfl (Str.one30 _) ?_))
    go_meet
    refine ⟨rfl, ((Blk.last w 30 _).alloc _).alloc _, ⟨#[Value.slice none 0 0, .int .i64 0, .slice none 0 0, .int .i64 0, .int .u8 0, .int .u8 0, .string ⟨#[]⟩, .bool false, .int .i64 0, .bool false, .bool false, .bool false, .bool false, .slice none 0 0, .int .i64 0, .int .i64 0, .int .i64 0, .slice none 0 0, .bool false, .bool false], rfl, ?_⟩, ?_, (((Below.refl _ _).alloc (Nat.le_refl _) _).alloc (by simp) _).alloc (by simp; omega) _, by simp⟩
    · exact (Blk.lastAt _ 30 _ _ (by simp)).alloc _
    · exact Blk.lastAt _ 30 _ _ (by simp)
  case rest =>
  obtain ⟨rfl, hB1, ⟨z, hz, hB2⟩, hB3, hb0, hsz⟩ := hcut
  have c0 : wc.cell? ⟨w.heap.size, 0, none⟩ = some s.path.v := hB1.cell 0
  have HK0 : Hid (KS w wc s.cells30 z s.cells30) := ⟨hB1, hB2, hB3, hb0, by omega⟩
  clear hB1 hB2 hB3 hb0 hsz
  go_wp2_with fail
  refine (cloneStrs_any _ _ _ C.path _ (rds_below HR.out.path HK0.out.below) HR.out.pathN HS.out.path (by have := HS.out.pathL; omega)).mono ?_
  rintro e w1 ⟨p, rfl, ho1, b1⟩
  have HK1 : Hid (KS w w1 s.cells30 z s.cells30) := HK0.out.call b1
  have HO1 : Hid (w1.ownsRow w.heap.size 9 1 (.slice p s.path.n s.path.n) s.path.n (strs C.path)) := own_base ho1 (by have := HK0.out.size; omega)
  have d0 : w1.cell? ⟨w.heap.size + 2, 0, none⟩ = some s.path.v := HK1.out.b3.cell 0
  have f0 : w1.frozen? ⟨w.heap.size + 2, 0, none⟩ = false := HK1.out.b3.free 0
  have c2 : w1.cell? ⟨w.heap.size, 2, none⟩ = some s.closers.v := HK1.out.b1.cell 2
  have HK1' : Hid (KS w (w1.setCell ⟨w.heap.size + 2, 0, none⟩ (.slice p s.path.n s.path.n)) s.cells30 z ({ s with path := ⟨p, s.path.n, s.path.n⟩ } : Str).cells30) := HK1.out.store 0 _ rfl
  have HO1' : Hid ((w1.setCell ⟨w.heap.size + 2, 0, none⟩ (.slice p s.path.n s.path.n)).ownsRow w.heap.size 9 1 (.slice p s.path.n s.path.n) s.path.n (strs C.path)) := own_blk HO1.out HK1.out.b3 (by decide)
  clear c0 b1 ho1 HK0
  go_wp2_with fail
  refine (clone_any _ _ _ C.closers _ (rd_below HR.out.closers HK1'.out.below) HR.out.closersN HS.out.closers (by have := HS.out.closersL; omega)).mono ?_
  rintro e w2 ⟨c, rfl, ho2, b2⟩
  have HK2 : Hid (KS w w2 s.cells30 z ({ s with path := ⟨p, s.path.n, s.path.n⟩ } : Str).cells30) := HK1'.out.call b2
  have HO2 : Hid (w2.ownsRow w.heap.size 5 1 (.slice c s.closers.n s.closers.n) s.closers.n (bys C.closers)) := own_base ho2 (by have := HK1'.out.size; omega)
  have HP2 : Hid (w2.ownsRow w.heap.size 9 1 (.slice p s.path.n s.path.n) s.path.n (strs C.path)) := owns_below HO1'.out b2
  have d2 : w2.cell? ⟨w.heap.size + 2, 2, none⟩ = some s.closers.v := HK2.out.b3.cell 2
  have f2 : w2.frozen? ⟨w.heap.size + 2, 2, none⟩ = false := HK2.out.b3.free 2
  have c13 : w2.cell? ⟨w.heap.size, 13, none⟩ = some s.name.v := HK2.out.b1.cell 13
  have HK2' : Hid (KS w (w2.setCell ⟨w.heap.size + 2, 2, none⟩ (.slice c s.closers.n s.closers.n)) s.cells30 z ({ s with path := ⟨p, s.path.n, s.path.n⟩, closers := ⟨c, s.closers.n, s.closers.n⟩ } : Str).cells30) := HK2.out.store 2 _ rfl
  have HO2' : Hid ((w2.setCell ⟨w.heap.size + 2, 2, none⟩ (.slice c s.closers.n s.closers.n)).ownsRow w.heap.size 5 1 (.slice c s.closers.n s.closers.n) s.closers.n (bys C.closers)) := own_blk HO2.out HK2.out.b3 (by decide)
  have HP2' : Hid ((w2.setCell ⟨w.heap.size + 2, 2, none⟩ (.slice c s.closers.n s.closers.n)).ownsRow w.heap.size 9 1 (.slice p s.path.n s.path.n) s.path.n (strs C.path)) := own_blk HP2.out HK2.out.b3 (by decide)
  clear d0 f0 c2 HK1 HO1 HK1' HO1' b2 ho2
  go_wp2_with fail
  refine (clone_any _ _ _ C.name _ (rd_below HR.out.name HK2'.out.below) HR.out.nameN HS.out.name (by have := HS.out.nameL; omega)).mono ?_
  rintro e w3 ⟨n, rfl, ho3, b3⟩
  have HK3 : Hid (KS w w3 s.cells30 z ({ s with path := ⟨p, s.path.n, s.path.n⟩, closers := ⟨c, s.closers.n, s.closers.n⟩ } : Str).cells30) := HK2'.out.call b3
  have HO3 : Hid (w3.ownsRow w.heap.size 5 1 (.slice n s.name.n s.name.n) s.name.n (bys C.name)) := own_base ho3 (by have := HK2'.out.size; omega)
  have HC3 : Hid (w3.ownsRow w.heap.size 5 1 (.slice c s.closers.n s.closers.n) s.closers.n (bys C.closers)) := owns_below HO2'.out b3
  have HP3 : Hid (w3.ownsRow w.heap.size 9 1 (.slice p s.path.n s.path.n) s.path.n (strs C.path)) := owns_below HP2'.out b3
  have d13 : w3.cell? ⟨w.heap.size + 2, 13, none⟩ = some s.name.v := HK3.out.b3.cell 13
  have f13 : w3.frozen? ⟨w.heap.size + 2, 13, none⟩ = false := HK3.out.b3.free 13
  have c17 : w3.cell? ⟨w.heap.size, 17, none⟩ = some s.kept.v := HK3.out.b1.cell 17
  have HK3' : Hid (KS w (w3.setCell ⟨w.heap.size + 2, 13, none⟩ (.slice n s.name.n s.name.n)) s.cells30 z ({ s with path := ⟨p, s.path.n, s.path.n⟩, closers := ⟨c, s.closers.n, s.closers.n⟩, name := ⟨n, s.name.n, s.name.n⟩ } : Str).cells30) := HK3.out.store 13 _ rfl
  have HO3' : Hid ((w3.setCell ⟨w.heap.size + 2, 13, none⟩ (.slice n s.name.n s.name.n)).ownsRow w.heap.size 5 1 (.slice n s.name.n s.name.n) s.name.n (bys C.name)) := own_blk HO3.out HK3.out.b3 (by decide)
  have HC3' : Hid ((w3.setCell ⟨w.heap.size + 2, 13, none⟩ (.slice n s.name.n s.name.n)).ownsRow w.heap.size 5 1 (.slice c s.closers.n s.closers.n) s.closers.n (bys C.closers)) := own_blk HC3.out HK3.out.b3 (by decide)
  have HP3' : Hid ((w3.setCell ⟨w.heap.size + 2, 13, none⟩ (.slice n s.name.n s.name.n)).ownsRow w.heap.size 9 1 (.slice p s.path.n s.path.n) s.path.n (strs C.path)) := own_blk HP3.out HK3.out.b3 (by decide)
  clear d2 f2 c13 HK2 HO2 HP2 HK2' HO2' HP2' b3 ho3
  go_wp2_with fail
  refine (clone_any _ _ _ C.kept _ (rd_below HR.out.kept HK3'.out.below) HR.out.keptN HS.out.kept (by have := HS.out.keptL; omega)).mono ?_
  rintro e w4 ⟨k, rfl, ho4, b4⟩
  obtain ⟨B, hBdef⟩ : ∃ B, B = (w3.setCell ⟨w.heap.size + 2, 13, none⟩ (.slice n s.name.n s.name.n)).heap.size := ⟨_, rfl⟩
  have HBp : Hid (∀ j, (Value.slice p s.path.n s.path.n).ownBlock = some j → j < B) := by intro j hj; rw [hBdef]; exact (HP3'.out.lt j hj).2
  have HBc : Hid (∀ j, (Value.slice c s.closers.n s.closers.n).ownBlock = some j → j < B) := by intro j hj; rw [hBdef]; exact (HC3'.out.lt j hj).2
  have HBn : Hid (∀ j, (Value.slice n s.name.n s.name.n).ownBlock = some j → j < B) := by intro j hj; rw [hBdef]; exact (HO3'.out.lt j hj).2
  have HBk : Hid (w4.ownsRow B 5 1 (.slice k s.kept.n s.kept.n) s.kept.n (bys C.kept)) := by rw [hBdef]; exact ho4
  have HBl1 : Hid (w.heap.size ≤ B) := by show _ ≤ _; rw [hBdef]; have := HK3'.out.size; omega
  have HBl2 : Hid (B ≤ w4.heap.size) := by rw [hBdef]; exact b4.size
  clear hBdef
  have HK4 : Hid (KS w w4 s.cells30 z ({ s with path := ⟨p, s.path.n, s.path.n⟩, closers := ⟨c, s.closers.n, s.closers.n⟩, name := ⟨n, s.name.n, s.name.n⟩ } : Str).cells30) := HK3'.out.call b4
  have d17 : w4.cell? ⟨w.heap.size + 2, 17, none⟩ = some s.kept.v := HK4.out.b3.cell 17
  have f17 : w4.frozen? ⟨w.heap.size + 2, 17, none⟩ = false := HK4.out.b3.free 17
  have HK4' : Hid (KS w (w4.setCell ⟨w.heap.size + 2, 17, none⟩ (.slice k s.kept.n s.kept.n)) s.cells30 z (s.with4 p c n k).cells30) := HK4.out.store 17 _ rfl
  have HOw : Hid (Owned (w4.setCell ⟨w.heap.size + 2, 17, none⟩ (.slice k s.kept.n s.kept.n)) w.heap.size (s.with4 p c n k) C) :=
    ⟨own_blk (owns_below HP3'.out b4) HK4.out.b3 (by decide), rfl, own_blk (owns_below HC3'.out b4) HK4.out.b3 (by decide), rfl, own_blk (owns_below HO3'.out b4) HK4.out.b3 (by decide), rfl,
      own_blk (own_base ho4 (by have := HK3'.out.size; omega)) HK4.out.b3 (by decide), rfl⟩
  have HAp : Hid (Apart B w.heap.size (s.with4 p c n k) C (w4.setCell ⟨w.heap.size + 2, 17, none⟩ (.slice k s.kept.n s.kept.n))) := ⟨HBl1.out, by show B ≤ (w4.heap.modify _ _).size; rw [Array.size_modify]; exact HBl2.out, HBp.out, HBc.out, HBn.out, own_blk HBk.out HK4.out.b3 (by decide)⟩
  clear HBp HBc HBn HBk HBl1 HBl2
  clear d13 f13 c17 HK3 HO3 HC3 HP3 HK3' HO3' HC3' HP3' b4 ho4 HK4
  go_upto_region 6 with fail
  go_cut [2] (fun t wx => t = .pointer (some ⟨w.heap.size + 1, 0, none⟩) ∧ Blk wx (w.heap.size + 1) 30 (s.with4 p c n k).cells30 ∧ Owned wx w.heap.size (s.with4 p c n k) C ∧ Below w.heap.size w wx ∧ Apart B w.heap.size (s.with4 p c n k) C wx)
  case first =>
    go_wp2_with (first
      | (refine wpList_load_row (o := { dst := some 21, op := .load 30 (.tmp 3), type := _, pos := _, after := _, guard := _ }) rfl 30 _ rfl (w.heap.size + 2) rfl 30 (s.with4 p c n k).cells30 (0, 0) _ HK4'.out.b3 Try.underlying30 rfl Try.info30 ?_)
      | (refine wpList_store_row (o := { dst := none, op := .store 30 (.tmp 2) (.tmp 21), type := _, pos := _, after := _, guard := _ }) rfl 30 _ _ rfl (w.heap.size + 1) (s.with4 p c n k).cells30 rfl rfl 30 z HK4'.out.b2 Try.info30 hz (Str.one30 _) ?_))
    go_simp
    go_meet
    exact ⟨rfl, setRow_heap _ _ _ _ _ _ HK4'.out.b2, HOw.out.row HK4'.out.b2, HK4'.out.below.trans ((only_setRow _ _ _).below (by omega) (by have := HK4'.out.size; omega)), HAp.out.row HK4'.out.b2⟩
  case rest =>
  obtain ⟨rfl, hb, ho, hbel, hap⟩ := hcut
  have HOw2 : Hid (Owned wc w.heap.size (s.with4 p c n k) C) := ho
  have HBl : Hid (Blk wc (w.heap.size + 1) 30 (s.with4 p c n k).cells30) := hb
  have HAp2 : Hid (Apart B w.heap.size (s.with4 p c n k) C wc) := hap
  clear hb ho hap
  go_wp2_with fail
  exact bodyPost_ret (v := .agg (s.with4 p c n k).cells30) (results_cell_row (p := 2) (ty := 30) rfl _ _ (w.heap.size + 1) 30 _ _ _ rfl HBl.out Try.underlying30 rfl Try.info30) rfl ⟨p, c, n, k, B, rfl, HOw2.out, hbel, HAp2.out⟩

theorem zzBeginValue2 {Q : Ending → World → Prop} (g : Nat) (pv : Value) (i : Int) (w : World) (h : Calls Try.prog 43 #[.pointer (some ⟨g, 0, none⟩), pv, .int .i64 i] w fun e w' => (∃ r, e = .returned (.int .i64 r)) ∧ Q e w') :
    Calls Try.prog 33 #[.pointer (some ⟨g, 0, none⟩), pv, .int .i64 i] w Q := by
  go_enter Try.func33, Try.ntmps33
  go_wp2_with fail
  refine h.mono ?_
  rintro e w' ⟨⟨r, rfl⟩, hq⟩
  have HQ : Hid (Q (.returned (.int .i64 r)) w') := hq
  clear hq
  go_wp2_with fail
  exact HQ.out
end Go.Proofs.Qxb6602575a
