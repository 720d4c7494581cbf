import Derived.Test.Qxb6602575aW16
namespace Go.Proofs.Qxb6602575a
open Go.RowKit

/-- A copy of a stream's fields with slices of its own. -/
def Str.with4 (s : Str) (p c n k : Option Addr) : Str :=
  { s with path := ⟨p, s.path.n, s.path.n⟩, closers := ⟨c, s.closers.n, s.closers.n⟩, name := ⟨n, s.name.n, s.name.n⟩, kept := ⟨k, s.kept.n, s.kept.n⟩ }

theorem own_base {w : World} {base base' e size : Nat} {v : Value} {n : Nat} {xs : List Value} (h : w.ownsRow base e size v n xs) (hb : base' ≤ base) : w.ownsRow base' e size v n xs := by
  obtain ⟨hl, h | ⟨g, cap, cur, h1, h2, r⟩⟩ := h
  · exact ⟨hl, .inl h⟩
  · exact ⟨hl, .inr ⟨g, cap, cur, h1, by omega, r⟩⟩

theorem Blk.lastAt (w : World) (t g : Nat) (cs : Array Value) (hg : g = w.heap.size) : Blk (w.alloc (.cells cs t)) g t cs := by subst hg; exact Blk.last w t cs

theorem only_setRow (g : Nat) (w : World) (cs : Array Value) : Only g w (w.setRow g cs) :=
  ⟨rfl, rfl, rfl, by rw [setRow_size]; exact Nat.le_refl _, fun k _ hk => setRow_other w g k cs hk⟩
theorem own_row {w : World} {base e g n t : Nat} {v : Value} {xs : List Value} {cs cs' : Array Value} (h : w.ownsRow base e 1 v n xs) (hg : Blk w g t cs) (he : e ≠ t) : (w.setRow g cs').ownsRow base e 1 v n xs :=
  own_only h hg (fun cs fr c => by cases c; exact he rfl) (only_setRow g w cs')
theorem Owned.row {w : World} {base g : Nat} {s : Str} {C : Con} {cs cs' : Array Value} (h : Owned w base s C) (hg : Blk w g 30 cs) : Owned (w.setRow g cs') base s C :=
  ⟨own_row h.path hg (by decide), h.pathC, own_row h.closers hg (by decide), h.closersC, own_row h.name hg (by decide), h.nameC, own_row h.kept hg (by decide), h.keptC⟩

/-- On the way: the parameter's block, the result's, the copy's. -/
structure KS (w W : World) (a z c : Array Value) : Prop where
  b1 : Blk W w.heap.size 30 a
  b2 : Blk W (w.heap.size + 1) 30 z
  b3 : Blk W (w.heap.size + 2) 30 c
  below : Below w.heap.size w W
  size : w.heap.size + 3 ≤ W.heap.size
theorem KS.store {w W : World} {a z c c' : Array Value} (h : KS w W a z c) (k : Nat) (v : Value) (e : c.setIfInBounds k v = c') : KS w (W.setCell ⟨w.heap.size + 2, k, none⟩ v) a z c' :=
  ⟨h.b1.other k v (by omega), h.b2.other k v (by omega), h.b3.set k v e, h.below.setCell (by show _ ≤ w.heap.size + 2; omega) v, by show _ ≤ (W.heap.modify _ _).size; rw [Array.size_modify]; exact h.size⟩
theorem KS.call {w W W' : World} {a z c : Array Value} (h : KS w W a z c) (hb : Below W.heap.size W W') : KS w W' a z c :=
  ⟨h.b1.below hb, h.b2.below hb, h.b3.below hb, h.below.trans (hb.mono (by have := h.size; omega)), Nat.le_trans h.size hb.size⟩
theorem own_blk {w : World} {base e g n t k : Nat} {v u : Value} {xs : List Value} {cs : Array Value} (h : w.ownsRow base e 1 v n xs) (hg : Blk w g t cs) (he : e ≠ t) : (w.setCell ⟨g, k, none⟩ u).ownsRow base e 1 v n xs :=
  own_only h hg (fun cs fr c => by cases c; exact he rfl) ((Only.refl g w).setCell k u)

set_option maxHeartbeats 2000000 in
set_option maxRecDepth 100000 in
theorem cloneStream_any (s : Str) (C : Con) (w : World) (hr : Reads w s C) (hs : Sound s) :
    Calls Try.prog 18 #[.agg s.cells30] w fun e w' => ∃ p c n k, e = .returned (.agg (s.with4 p c n k).cells30) ∧ Owned w' w.heap.size (s.with4 p c n k) C ∧ Below w.heap.size w w' := by
  have HR : Hid (Reads w s C) := hr
  have HS : Hid (Sound s) := hs
  clear hr hs
  go_enter Try.func18, Try.ntmps18
  go_upto_region 1 with fail
  go_cut [3] (fun t wx => t = .pointer (some ⟨w.heap.size + 2, 0, none⟩) ∧ Blk wx w.heap.size 30 s.cells30 ∧ (∃ z : Array Value, z.size = 20 ∧ Blk wx (w.heap.size + 1) 30 z) ∧ Blk wx (w.heap.size + 2) 30 s.cells30 ∧ Below w.heap.size w wx ∧ wx.heap.size = w.heap.size + 3)
  case first =>
    go_wp2_with (first
      | (refine wpList_load_row (o := { dst := some 4, op := .load 30 (.tmp 1), type := _, pos := _, after := _, guard := _ }) rfl 30 _ rfl w.heap.size rfl 30 s.cells30 (0, 0) _ ((Blk.last w 30 s.cells30).alloc _) Try.underlying30 rfl Try.info30 ?_)
      | (refine wpList_store_newg (o := { dst := none, op := .store 30 (.tmp 3) (.tmp 4), type := _, pos := _, after := _, guard := _ }) rfl 30 _ _ rfl s.cells30 _ (w.heap.size + 2) (by simp) rfl rfl Try.info30 rfl (Str.one30 _) ?_))
    go_meet
    refine ⟨rfl, ((Blk.last w 30 _).alloc _).alloc _, ⟨#[Value.slice none 0 0, .int .i64 0, .slice none 0 0, .int .i64 0, .int .u8 0, .int .u8 0, .string ⟨#[]⟩, .bool false, .int .i64 0, .bool false, .bool false, .bool false, .bool false, .slice none 0 0, .int .i64 0, .int .i64 0, .int .i64 0, .slice none 0 0, .bool false, .bool false], rfl, ?_⟩, ?_, (((Below.refl _ _).alloc (Nat.le_refl _) _).alloc (by simp) _).alloc (by simp; omega) _, by simp⟩
    · exact (Blk.lastAt _ 30 _ _ (by simp)).alloc _
    · exact Blk.lastAt _ 30 _ _ (by simp)
  case rest =>
  obtain ⟨rfl, hB1, ⟨z, hz, hB2⟩, hB3, hb0, hsz⟩ := hcut
  have c0 : wc.cell? ⟨w.heap.size, 0, none⟩ = some s.path.v := hB1.cell 0
  have HK0 : Hid (KS w wc s.cells30 z s.cells30) := ⟨hB1, hB2, hB3, hb0, by omega⟩
  clear hB1 hB2 hB3 hb0 hsz
  go_wp2_with fail
  refine (cloneStrs_any _ _ _ C.path _ (rds_below HR.out.path HK0.out.below) HR.out.pathN HS.out.path (by have := HS.out.pathL; omega)).mono ?_
  rintro e w1 ⟨p, rfl, ho1, b1⟩
  have HK1 : Hid (KS w w1 s.cells30 z s.cells30) := HK0.out.call b1
  have HO1 : Hid (w1.ownsRow w.heap.size 9 1 (.slice p s.path.n s.path.n) s.path.n (strs C.path)) := own_base ho1 (by have := HK0.out.size; omega)
  have d0 : w1.cell? ⟨w.heap.size + 2, 0, none⟩ = some s.path.v := HK1.out.b3.cell 0
  have f0 : w1.frozen? ⟨w.heap.size + 2, 0, none⟩ = false := HK1.out.b3.free 0
  have c2 : w1.cell? ⟨w.heap.size, 2, none⟩ = some s.closers.v := HK1.out.b1.cell 2
  have HK1' : Hid (KS w (w1.setCell ⟨w.heap.size + 2, 0, none⟩ (.slice p s.path.n s.path.n)) s.cells30 z ({ s with path := ⟨p, s.path.n, s.path.n⟩ } : Str).cells30) := HK1.out.store 0 _ rfl
  have HO1' : Hid ((w1.setCell ⟨w.heap.size + 2, 0, none⟩ (.slice p s.path.n s.path.n)).ownsRow w.heap.size 9 1 (.slice p s.path.n s.path.n) s.path.n (strs C.path)) := own_blk HO1.out HK1.out.b3 (by decide)
  clear c0 b1 ho1 HK0
  go_wp2_with fail
  refine (clone_any _ _ _ C.closers _ (rd_below HR.out.closers HK1'.out.below) HR.out.closersN HS.out.closers (by have := HS.out.closersL; omega)).mono ?_
  rintro e w2 ⟨c, rfl, ho2, b2⟩
  have HK2 : Hid (KS w w2 s.cells30 z ({ s with path := ⟨p, s.path.n, s.path.n⟩ } : Str).cells30) := HK1'.out.call b2
  have HO2 : Hid (w2.ownsRow w.heap.size 5 1 (.slice c s.closers.n s.closers.n) s.closers.n (bys C.closers)) := own_base ho2 (by have := HK1'.out.size; omega)
  have HP2 : Hid (w2.ownsRow w.heap.size 9 1 (.slice p s.path.n s.path.n) s.path.n (strs C.path)) := owns_below HO1'.out b2
  have d2 : w2.cell? ⟨w.heap.size + 2, 2, none⟩ = some s.closers.v := HK2.out.b3.cell 2
  have f2 : w2.frozen? ⟨w.heap.size + 2, 2, none⟩ = false := HK2.out.b3.free 2
  have c13 : w2.cell? ⟨w.heap.size, 13, none⟩ = some s.name.v := HK2.out.b1.cell 13
  have HK2' : Hid (KS w (w2.setCell ⟨w.heap.size + 2, 2, none⟩ (.slice c s.closers.n s.closers.n)) s.cells30 z ({ s with path := ⟨p, s.path.n, s.path.n⟩, closers := ⟨c, s.closers.n, s.closers.n⟩ } : Str).cells30) := HK2.out.store 2 _ rfl
  have HO2' : Hid ((w2.setCell ⟨w.heap.size + 2, 2, none⟩ (.slice c s.closers.n s.closers.n)).ownsRow w.heap.size 5 1 (.slice c s.closers.n s.closers.n) s.closers.n (bys C.closers)) := own_blk HO2.out HK2.out.b3 (by decide)
  have HP2' : Hid ((w2.setCell ⟨w.heap.size + 2, 2, none⟩ (.slice c s.closers.n s.closers.n)).ownsRow w.heap.size 9 1 (.slice p s.path.n s.path.n) s.path.n (strs C.path)) := own_blk HP2.out HK2.out.b3 (by decide)
  clear d0 f0 c2 HK1 HO1 HK1' HO1' b2 ho2
  go_wp2_with fail
  refine (clone_any _ _ _ C.name _ (rd_below HR.out.name HK2'.out.below) HR.out.nameN HS.out.name (by have := HS.out.nameL; omega)).mono ?_
  rintro e w3 ⟨n, rfl, ho3, b3⟩
  have HK3 : Hid (KS w w3 s.cells30 z ({ s with path := ⟨p, s.path.n, s.path.n⟩, closers := ⟨c, s.closers.n, s.closers.n⟩ } : Str).cells30) := HK2'.out.call b3
  have HO3 : Hid (w3.ownsRow w.heap.size 5 1 (.slice n s.name.n s.name.n) s.name.n (bys C.name)) := own_base ho3 (by have := HK2'.out.size; omega)
  have HC3 : Hid (w3.ownsRow w.heap.size 5 1 (.slice c s.closers.n s.closers.n) s.closers.n (bys C.closers)) := owns_below HO2'.out b3
  have HP3 : Hid (w3.ownsRow w.heap.size 9 1 (.slice p s.path.n s.path.n) s.path.n (strs C.path)) := owns_below HP2'.out b3
  have d13 : w3.cell? ⟨w.heap.size + 2, 13, none⟩ = some s.name.v := HK3.out.b3.cell 13
  have f13 : w3.frozen? ⟨w.heap.size + 2, 13, none⟩ = false := HK3.out.b3.free 13
  have c17 : w3.cell? ⟨w.heap.size, 17, none⟩ = some s.kept.v := HK3.out.b1.cell 17
  have HK3' : Hid (KS w (w3.setCell ⟨w.heap.size + 2, 13, none⟩ (.slice n s.name.n s.name.n)) s.cells30 z ({ s with path := ⟨p, s.path.n, s.path.n⟩, closers := ⟨c, s.closers.n, s.closers.n⟩, name := ⟨n, s.name.n, s.name.n⟩ } : Str).cells30) := HK3.out.store 13 _ rfl
  have HO3' : Hid ((w3.setCell ⟨w.heap.size + 2, 13, none⟩ (.slice n s.name.n s.name.n)).ownsRow w.heap.size 5 1 (.slice n s.name.n s.name.n) s.name.n (bys C.name)) := own_blk HO3.out HK3.out.b3 (by decide)
  have HC3' : Hid ((w3.setCell ⟨w.heap.size + 2, 13, none⟩ (.slice n s.name.n s.name.n)).ownsRow w.heap.size 5 1 (.slice c s.closers.n s.closers.n) s.closers.n (bys C.closers)) := own_blk HC3.out HK3.out.b3 (by decide)
  have HP3' : Hid ((w3.setCell ⟨w.heap.size + 2, 13, none⟩ (.slice n s.name.n s.name.n)).ownsRow w.heap.size 9 1 (.slice p s.path.n s.path.n) s.path.n (strs C.path)) := own_blk HP3.out HK3.out.b3 (by decide)
  clear d2 f2 c13 HK2 HO2 HP2 HK2' HO2' HP2' b3 ho3
  go_wp2_with fail
  refine (clone_any _ _ _ C.kept _ (rd_below HR.out.kept HK3'.out.below) HR.out.keptN HS.out.kept (by have := HS.out.keptL; omega)).mono ?_
  rintro e w4 ⟨k, rfl, ho4, b4⟩
  have HK4 : Hid (KS w w4 s.cells30 z ({ s with path := ⟨p, s.path.n, s.path.n⟩, closers := ⟨c, s.closers.n, s.closers.n⟩, name := ⟨n, s.name.n, s.name.n⟩ } : Str).cells30) := HK3'.out.call b4
  have d17 : w4.cell? ⟨w.heap.size + 2, 17, none⟩ = some s.kept.v := HK4.out.b3.cell 17
  have f17 : w4.frozen? ⟨w.heap.size + 2, 17, none⟩ = false := HK4.out.b3.free 17
  have HK4' : Hid (KS w (w4.setCell ⟨w.heap.size + 2, 17, none⟩ (.slice k s.kept.n s.kept.n)) s.cells30 z (s.with4 p c n k).cells30) := HK4.out.store 17 _ rfl
  have HOw : Hid (Owned (w4.setCell ⟨w.heap.size + 2, 17, none⟩ (.slice k s.kept.n s.kept.n)) w.heap.size (s.with4 p c n k) C) :=
    ⟨own_blk (owns_below HP3'.out b4) HK4.out.b3 (by decide), rfl, own_blk (owns_below HC3'.out b4) HK4.out.b3 (by decide), rfl, own_blk (owns_below HO3'.out b4) HK4.out.b3 (by decide), rfl,
      own_blk (own_base ho4 (by have := HK3'.out.size; omega)) HK4.out.b3 (by decide), rfl⟩
  clear d13 f13 c17 HK3 HO3 HC3 HP3 HK3' HO3' HC3' HP3' b4 ho4 HK4
  go_upto_region 6 with fail
  go_cut [2] (fun t wx => t = .pointer (some ⟨w.heap.size + 1, 0, none⟩) ∧ Blk wx (w.heap.size + 1) 30 (s.with4 p c n k).cells30 ∧ Owned wx w.heap.size (s.with4 p c n k) C ∧ Below w.heap.size w wx)
  case first =>
    go_wp2_with (first
      | (refine wpList_load_row (o := { dst := some 21, op := .load 30 (.tmp 3), type := _, pos := _, after := _, guard := _ }) rfl 30 _ rfl (w.heap.size + 2) rfl 30 (s.with4 p c n k).cells30 (0, 0) _ HK4'.out.b3 Try.underlying30 rfl Try.info30 ?_)
      | (refine wpList_store_row (o := { dst := none, op := .store 30 (.tmp 2) (.tmp 21), type := _, pos := _, after := _, guard := _ }) rfl 30 _ _ rfl (w.heap.size + 1) (s.with4 p c n k).cells30 rfl rfl 30 z HK4'.out.b2 Try.info30 hz (Str.one30 _) ?_))
    go_simp
    go_meet
    exact ⟨rfl, setRow_heap _ _ _ _ _ _ HK4'.out.b2, HOw.out.row HK4'.out.b2, HK4'.out.below.trans ((only_setRow _ _ _).below (by omega) (by have := HK4'.out.size; omega))⟩
  case rest =>
  obtain ⟨rfl, hb, ho, hbel⟩ := hcut
  have HOw2 : Hid (Owned wc w.heap.size (s.with4 p c n k) C) := ho
  have HBl : Hid (Blk wc (w.heap.size + 1) 30 (s.with4 p c n k).cells30) := hb
  clear hb ho
  go_wp2_with fail
  exact bodyPost_ret (v := .agg (s.with4 p c n k).cells30) (results_cell_row (p := 2) (ty := 30) rfl _ _ (w.heap.size + 1) 30 _ _ _ rfl HBl.out Try.underlying30 rfl Try.info30) rfl ⟨p, c, n, k, rfl, HOw2.out, hbel⟩
end Go.Proofs.Qxb6602575a
