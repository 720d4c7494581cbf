import Derived.Test.Qxb6602575aW16
namespace Go.Proofs.Qxb6602575a
open Go.RowKit

theorem Reads.drewN {w : World} {s : Str} {C : Con} (h : Reads w s C) (m : Nat) : Reads (w.drewN m) s C := ⟨h.path, h.pathN, h.closers, h.closersN, h.name, h.nameN, h.kept, h.keptN⟩

set_option maxHeartbeats 4000000 in
set_option maxRecDepth 100000 in
/-- jsb1Matches answers true where every field is the same and the slices hold the same. -/
theorem matches_true (v : Str) (p c n k : Sl) (C : Con) (w : World) (hv : Reads w v C) (hs : Reads w { v with path := p, closers := c, name := n, kept := k } C) :
    Calls Try.prog 25 #[.agg v.cells, .agg ({ v with path := p, closers := c, name := n, kept := k } : Str).cells30, .bool v.broken] w fun e w' => e = .returned (.bool true) ∧ Below w.heap.size w w' := by
  have HV : Hid (Reads w v C) := hv
  have HS : Hid (Reads w { v with path := p, closers := c, name := n, kept := k } C) := hs
  clear hv hs
  go_enter Try.func25, Try.ntmps25
  go_upto_region 0 with fail
  go_cut [3, 4, 6] (fun t u r wx => t = .pointer (some ⟨w.heap.size, 0, none⟩) ∧ u = .pointer (some ⟨w.heap.size + 1, 0, none⟩) ∧ r = .bool false ∧ Blk wx w.heap.size 42 v.cells ∧ Blk wx (w.heap.size + 1) 30 ({ v with path := p, closers := c, name := n, kept := k } : Str).cells30 ∧ Below w.heap.size w wx)
  case first =>
    go_wp2_with fail
    go_meet
    refine ⟨rfl, rfl, rfl, (Blk.last w 42 _).alloc _, ?_, ((Below.refl _ _).alloc (Nat.le_refl _) _).alloc (by simp) _⟩
    have := Blk.last (w.alloc (Obj.cells v.cells 42)) 30 ({ v with path := p, closers := c, name := n, kept := k } : Str).cells30
    rw [World.size_alloc] at this
    exact this
  case rest =>
  obtain ⟨rfl, rfl, rfl, hB1, hB2, hbel⟩ := hcut
  have a0 : wc.cell? ⟨w.heap.size, 0, none⟩ = some v.path.v := hB1.cell 0
  have a1 : wc.cell? ⟨w.heap.size, 1, none⟩ = some (.int .i64 v.limit) := hB1.cell 1
  have a2 : wc.cell? ⟨w.heap.size, 2, none⟩ = some v.closers.v := hB1.cell 2
  have a3 : wc.cell? ⟨w.heap.size, 3, none⟩ = some (.int .i64 v.onPath) := hB1.cell 3
  have a4 : wc.cell? ⟨w.heap.size, 4, none⟩ = some (.int .u8 v.state) := hB1.cell 4
  have a5 : wc.cell? ⟨w.heap.size, 5, none⟩ = some (.int .u8 v.number) := hB1.cell 5
  have a6 : wc.cell? ⟨w.heap.size, 6, none⟩ = some (.string v.word) := hB1.cell 6
  have a7 : wc.cell? ⟨w.heap.size, 7, none⟩ = some (.bool v.escaped) := hB1.cell 7
  have a8 : wc.cell? ⟨w.heap.size, 8, none⟩ = some (.int .i64 v.hex) := hB1.cell 8
  have a9 : wc.cell? ⟨w.heap.size, 9, none⟩ = some (.bool v.isName) := hB1.cell 9
  have a10 : wc.cell? ⟨w.heap.size, 10, none⟩ = some (.bool v.naming) := hB1.cell 10
  have a11 : wc.cell? ⟨w.heap.size, 11, none⟩ = some (.bool v.nameOver) := hB1.cell 11
  have a12 : wc.cell? ⟨w.heap.size, 12, none⟩ = some (.bool v.named) := hB1.cell 12
  have a13 : wc.cell? ⟨w.heap.size, 13, none⟩ = some v.name.v := hB1.cell 13
  have a14 : wc.cell? ⟨w.heap.size, 14, none⟩ = some (.int .i64 v.maxName) := hB1.cell 14
  have a15 : wc.cell? ⟨w.heap.size, 15, none⟩ = some (.int .i64 v.keepDepth) := hB1.cell 15
  have a16 : wc.cell? ⟨w.heap.size, 16, none⟩ = some (.int .i64 v.keepFrom) := hB1.cell 16
  have a17 : wc.cell? ⟨w.heap.size, 17, none⟩ = some v.kept.v := hB1.cell 17
  have a18 : wc.cell? ⟨w.heap.size, 18, none⟩ = some (.bool v.over) := hB1.cell 18
  have a19 : wc.cell? ⟨w.heap.size, 19, none⟩ = some (.bool v.found) := hB1.cell 19
  have a20 : wc.cell? ⟨w.heap.size, 20, none⟩ = some (.bool v.broken) := hB1.cell 20
  have b0 : wc.cell? ⟨w.heap.size + 1, 0, none⟩ = some p.v := hB2.cell 0
  have b1 : wc.cell? ⟨w.heap.size + 1, 1, none⟩ = some (.int .i64 v.limit) := hB2.cell 1
  have b2 : wc.cell? ⟨w.heap.size + 1, 2, none⟩ = some c.v := hB2.cell 2
  have b3 : wc.cell? ⟨w.heap.size + 1, 3, none⟩ = some (.int .i64 v.onPath) := hB2.cell 3
  have b4 : wc.cell? ⟨w.heap.size + 1, 4, none⟩ = some (.int .u8 v.state) := hB2.cell 4
  have b5 : wc.cell? ⟨w.heap.size + 1, 5, none⟩ = some (.int .u8 v.number) := hB2.cell 5
  have b6 : wc.cell? ⟨w.heap.size + 1, 6, none⟩ = some (.string v.word) := hB2.cell 6
  have b7 : wc.cell? ⟨w.heap.size + 1, 7, none⟩ = some (.bool v.escaped) := hB2.cell 7
  have b8 : wc.cell? ⟨w.heap.size + 1, 8, none⟩ = some (.int .i64 v.hex) := hB2.cell 8
  have b9 : wc.cell? ⟨w.heap.size + 1, 9, none⟩ = some (.bool v.isName) := hB2.cell 9
  have b10 : wc.cell? ⟨w.heap.size + 1, 10, none⟩ = some (.bool v.naming) := hB2.cell 10
  have b11 : wc.cell? ⟨w.heap.size + 1, 11, none⟩ = some (.bool v.nameOver) := hB2.cell 11
  have b12 : wc.cell? ⟨w.heap.size + 1, 12, none⟩ = some (.bool v.named) := hB2.cell 12
  have b13 : wc.cell? ⟨w.heap.size + 1, 13, none⟩ = some n.v := hB2.cell 13
  have b14 : wc.cell? ⟨w.heap.size + 1, 14, none⟩ = some (.int .i64 v.maxName) := hB2.cell 14
  have b15 : wc.cell? ⟨w.heap.size + 1, 15, none⟩ = some (.int .i64 v.keepDepth) := hB2.cell 15
  have b16 : wc.cell? ⟨w.heap.size + 1, 16, none⟩ = some (.int .i64 v.keepFrom) := hB2.cell 16
  have b17 : wc.cell? ⟨w.heap.size + 1, 17, none⟩ = some k.v := hB2.cell 17
  have b18 : wc.cell? ⟨w.heap.size + 1, 18, none⟩ = some (.bool v.over) := hB2.cell 18
  have b19 : wc.cell? ⟨w.heap.size + 1, 19, none⟩ = some (.bool v.found) := hB2.cell 19
  have HVc : Hid (Reads wc v C) := HV.out.below hbel
  have HSc : Hid (Reads wc { v with path := p, closers := c, name := n, kept := k } C) := HS.out.below hbel
  have HB : Hid (Below w.heap.size w wc) := hbel
  clear hB1 hB2 hbel HV HS
  go_wp2_with fail
  refine (sameStrings_true _ _ _ _ _ _ C.path _ HVc.out.path HSc.out.path HVc.out.pathN HSc.out.pathN).mono ?_
  rintro e w1 ⟨rfl, m1, rfl⟩
  go_wp2_with fail
  refine (sameBytes_true _ _ _ _ _ _ C.closers _ (HVc.out.drewN m1).closers (HSc.out.drewN m1).closers HVc.out.closersN HSc.out.closersN).mono ?_
  rintro e w2 ⟨rfl, m2, rfl⟩
  clear a0 b0 a1 b1 a2 b2
  go_wp2_with fail
  refine (sameBytes_true _ _ _ _ _ _ C.name _ (HVc.out.drewN (m1 + m2)).name (HSc.out.drewN (m1 + m2)).name HVc.out.nameN HSc.out.nameN).mono ?_
  rintro e w3 ⟨rfl, m3, rfl⟩
  clear a3 b3 a4 b4 a5 b5 a6 b6 a7 b7 a8 b8 a9 b9 a10 b10 a11 b11 a12 b12 a13 b13
  go_wp2_with fail
  have HV4 : Hid (∀ m, Rd (wc.drewN m) v.kept.a C.kept) := fun _ => HVc.out.kept
  have HS4 : Hid (∀ m, Rd (wc.drewN m) k.a C.kept) := fun _ => HSc.out.kept
  refine (sameBytes_true _ _ _ _ _ _ C.kept _ (HV4.out _) (HS4.out _) HVc.out.keptN HSc.out.keptN).mono ?_
  rintro e w4 ⟨rfl, m4, rfl⟩
  clear a14 b14 a15 b15 a16 b16 a17 b17
  go_wp2_with fail
  go_ret
  exact ⟨rfl, ⟨HB.out.os, HB.out.tape, HB.out.output, HB.out.size, HB.out.block⟩⟩
end Go.Proofs.Qxb6602575a
