import Derived.Test.Qxb6602575aW16
import Derived.Test.Qxb6602575aLooks
import Derived.WalkKit
import Derived.ProofKit
import Derived.OpenShut
import Derived.ShutString
import Derived.SliceStrings
import Derived.ChangeOld
import Derived.Below
namespace Go.Proofs.Qxb6602575a
open Go.ChangeShapes Go.WideShapes Go.ChangeAt Go.RowKit

section
variable {H : Type} {enc : TypeId × Value → H} {W : World}

theorem sl_ints {n : Nat} {c : Value} {x : DataW H × List MemPlace} (h : DataW.trod enc Try.prog W 0 (fun _ => true) true n 22 [c] = some x) :
    ∃ (k : Sl) (zs : List Int), c = k.v ∧ Rd W k.a zs ∧ zs.length = k.n ∧ (k.a = none → k.c = 0) := by
  rcases open_ints Try.underlying22 Try.underlying5 (by kernel_rfl) h with ⟨hcs, _⟩ | ⟨y, l, c', zs, hcs, _, hl, hm, hz, _, hcell, hwz⟩
  · simp at hcs; subst hcs
    exact ⟨nilS, [], rfl, rd_nil _ _, rfl, fun _ => rfl⟩
  · simp at hcs; subst hcs
    obtain ⟨r1, r2, r3⟩ := rd_came (w := W) (a := some y) (len := l) (cap := c') (zs := zs) (.inr ⟨y, rfl, hl, hm, by simpa using hz, hcell, hwz⟩)
    exact ⟨⟨some y, l, c'⟩, _, rfl, r1, r2, r3⟩

theorem sl_strs {n : Nat} {c : Value} {x : DataW H × List MemPlace} (h : DataW.trod enc Try.prog W 0 (fun _ => true) true n 28 [c] = some x) :
    ∃ (k : Sl) (ss : List ByteArray), c = k.v ∧ RdS W k.a ss ∧ ss.length = k.n ∧ (k.a = none → k.c = 0) := by
  rcases open_strings Try.underlying28 Try.underlying9 (by kernel_rfl) h with ⟨hcs, _⟩ | ⟨y, l, c', ss, hcs, _, hl, hm, hz, _, hcell, _⟩
  · simp at hcs; subst hcs
    exact ⟨nilS, [], rfl, rds_nil _ _, rfl, fun _ => rfl⟩
  · simp at hcs; subst hcs
    have hz' : ss.length = c' := by simpa using hz
    have hlen : (ss.take l).length = l := by simp; omega
    refine ⟨⟨some y, l, c'⟩, ss.take l, rfl, ?_, hlen, (fun h => by cases h)⟩
    by_cases h0 : l = 0
    · subst h0; exact rds_nil _ _
    · obtain ⟨b, off, spot⟩ := y
      have hs : spot = none := by simpa [Addr.add] using World.cell?_spot (hcell 0 (by omega))
      subst hs
      refine ⟨by omega, .inr ⟨b, off, rfl, fun i hi => ?_⟩⟩
      have h6 := hcell i (by omega)
      rw [addr_plain] at h6
      rw [h6]
      have e : sat (ss.take l) i = ss.getD i ByteArray.empty := by
        unfold sat
        rw [List.getElem?_take_of_lt (by omega)]
        rfl
      rw [e]

theorem array20 {cs : Array Value} (h : cs.size = 20) : ∃ c0 c1 c2 c3 c4 c5 c6 c7 c8 c9 c10 c11 c12 c13 c14 c15 c16 c17 c18 c19, cs = #[c0, c1, c2, c3, c4, c5, c6, c7, c8, c9, c10, c11, c12, c13, c14, c15, c16, c17, c18, c19] := by
  obtain ⟨l⟩ := cs
  simp at h
  match l, h with
  | [c0, c1, c2, c3, c4, c5, c6, c7, c8, c9, c10, c11, c12, c13, c14, c15, c16, c17, c18, c19], _ => exact ⟨_, _, _, _, _, _, _, _, _, _, _, _, _, _, _, _, _, _, _, _, rfl⟩

theorem cells22 : Try.prog.cellsOf 22 = 1 := by kernel_rfl
theorem cells28 : Try.prog.cellsOf 28 = 1 := by kernel_rfl
theorem cells3 : Try.prog.cellsOf 3 = 1 := by kernel_rfl
theorem cells4 : Try.prog.cellsOf 4 = 1 := by kernel_rfl
theorem cells5 : Try.prog.cellsOf 5 = 1 := by kernel_rfl
theorem cells9 : Try.prog.cellsOf 9 = 1 := by kernel_rfl
theorem cells30 : Try.prog.cellsOf 30 = 20 := by kernel_rfl

/-- A Jsb1Stream that came in. -/
theorem open_stream {base : Nat} {v : Value} {d : DataW H} {p : List MemPlace} (hv : Value.okWide Try.prog W .any base 30 v) (h : DataW.Trod enc Try.prog W 0 (fun _ => true) true 30 v d p) :
    ∃ (s : Str) (C : Con), v = .agg s.cells30 ∧ Reads W s C ∧ ((s.path.a = none → s.path.c = 0) ∧ (s.closers.a = none → s.closers.c = 0) ∧ (s.name.a = none → s.name.c = 0) ∧ (s.kept.a = none → s.kept.c = 0)) ∧ s.word.size ≤ maxLen ∧ 0 ≤ s.number ∧ s.broken = false := by
  obtain ⟨cs, rfl, hsz⟩ := okWide_struct Try.underlying30 hv
  rw [cells30] at hsz
  obtain ⟨c0, c1, c2, c3, c4, c5, c6, c7, c8, c9, c10, c11, c12, c13, c14, c15, c16, c17, c18, c19, rfl⟩ := array20 hsz
  obtain ⟨fuel, hf⟩ := h
  obtain ⟨xs, n, _, _, _, hlen, hfd⟩ := DataW.trod_struct Try.underlying30 hf
  have hlen' : xs.length = 20 := hlen
  have get : ∀ i, i < 20 → ∃ y, xs[i]? = some y := fun i hi => ⟨xs[i], List.getElem?_eq_getElem (by omega)⟩
  obtain ⟨y0, hy0⟩ := get 0 (by omega)
  have t0 : DataW.trod enc Try.prog W 0 (fun _ => true) true n 28 [c0] = some y0 := by rw [← hy0, ← hfd 0 _ rfl]; simp [Value.cells, cells28]
  obtain ⟨y1, hy1⟩ := get 1 (by omega)
  have t1 : DataW.trod enc Try.prog W 0 (fun _ => true) true n 3 [c1] = some y1 := by rw [← hy1, ← hfd 1 _ rfl]; simp [Value.cells, cells3]
  obtain ⟨y2, hy2⟩ := get 2 (by omega)
  have t2 : DataW.trod enc Try.prog W 0 (fun _ => true) true n 22 [c2] = some y2 := by rw [← hy2, ← hfd 2 _ rfl]; simp [Value.cells, cells22]
  obtain ⟨y3, hy3⟩ := get 3 (by omega)
  have t3 : DataW.trod enc Try.prog W 0 (fun _ => true) true n 3 [c3] = some y3 := by rw [← hy3, ← hfd 3 _ rfl]; simp [Value.cells, cells3]
  obtain ⟨y4, hy4⟩ := get 4 (by omega)
  have t4 : DataW.trod enc Try.prog W 0 (fun _ => true) true n 5 [c4] = some y4 := by rw [← hy4, ← hfd 4 _ rfl]; simp [Value.cells, cells5]
  obtain ⟨y5, hy5⟩ := get 5 (by omega)
  have t5 : DataW.trod enc Try.prog W 0 (fun _ => true) true n 5 [c5] = some y5 := by rw [← hy5, ← hfd 5 _ rfl]; simp [Value.cells, cells5]
  obtain ⟨y6, hy6⟩ := get 6 (by omega)
  have t6 : DataW.trod enc Try.prog W 0 (fun _ => true) true n 9 [c6] = some y6 := by rw [← hy6, ← hfd 6 _ rfl]; simp [Value.cells, cells9]
  obtain ⟨y7, hy7⟩ := get 7 (by omega)
  have t7 : DataW.trod enc Try.prog W 0 (fun _ => true) true n 4 [c7] = some y7 := by rw [← hy7, ← hfd 7 _ rfl]; simp [Value.cells, cells4]
  obtain ⟨y8, hy8⟩ := get 8 (by omega)
  have t8 : DataW.trod enc Try.prog W 0 (fun _ => true) true n 3 [c8] = some y8 := by rw [← hy8, ← hfd 8 _ rfl]; simp [Value.cells, cells3]
  obtain ⟨y9, hy9⟩ := get 9 (by omega)
  have t9 : DataW.trod enc Try.prog W 0 (fun _ => true) true n 4 [c9] = some y9 := by rw [← hy9, ← hfd 9 _ rfl]; simp [Value.cells, cells4]
  obtain ⟨y10, hy10⟩ := get 10 (by omega)
  have t10 : DataW.trod enc Try.prog W 0 (fun _ => true) true n 4 [c10] = some y10 := by rw [← hy10, ← hfd 10 _ rfl]; simp [Value.cells, cells4]
  obtain ⟨y11, hy11⟩ := get 11 (by omega)
  have t11 : DataW.trod enc Try.prog W 0 (fun _ => true) true n 4 [c11] = some y11 := by rw [← hy11, ← hfd 11 _ rfl]; simp [Value.cells, cells4]
  obtain ⟨y12, hy12⟩ := get 12 (by omega)
  have t12 : DataW.trod enc Try.prog W 0 (fun _ => true) true n 4 [c12] = some y12 := by rw [← hy12, ← hfd 12 _ rfl]; simp [Value.cells, cells4]
  obtain ⟨y13, hy13⟩ := get 13 (by omega)
  have t13 : DataW.trod enc Try.prog W 0 (fun _ => true) true n 22 [c13] = some y13 := by rw [← hy13, ← hfd 13 _ rfl]; simp [Value.cells, cells22]
  obtain ⟨y14, hy14⟩ := get 14 (by omega)
  have t14 : DataW.trod enc Try.prog W 0 (fun _ => true) true n 3 [c14] = some y14 := by rw [← hy14, ← hfd 14 _ rfl]; simp [Value.cells, cells3]
  obtain ⟨y15, hy15⟩ := get 15 (by omega)
  have t15 : DataW.trod enc Try.prog W 0 (fun _ => true) true n 3 [c15] = some y15 := by rw [← hy15, ← hfd 15 _ rfl]; simp [Value.cells, cells3]
  obtain ⟨y16, hy16⟩ := get 16 (by omega)
  have t16 : DataW.trod enc Try.prog W 0 (fun _ => true) true n 3 [c16] = some y16 := by rw [← hy16, ← hfd 16 _ rfl]; simp [Value.cells, cells3]
  obtain ⟨y17, hy17⟩ := get 17 (by omega)
  have t17 : DataW.trod enc Try.prog W 0 (fun _ => true) true n 22 [c17] = some y17 := by rw [← hy17, ← hfd 17 _ rfl]; simp [Value.cells, cells22]
  obtain ⟨y18, hy18⟩ := get 18 (by omega)
  have t18 : DataW.trod enc Try.prog W 0 (fun _ => true) true n 4 [c18] = some y18 := by rw [← hy18, ← hfd 18 _ rfl]; simp [Value.cells, cells4]
  obtain ⟨y19, hy19⟩ := get 19 (by omega)
  have t19 : DataW.trod enc Try.prog W 0 (fun _ => true) true n 4 [c19] = some y19 := by rw [← hy19, ← hfd 19 _ rfl]; simp [Value.cells, cells4]
  obtain ⟨k0, z0, rfl, r0, l0, e0⟩ := sl_strs t0
  obtain ⟨a1, q1, _, w1⟩ := DataW.trod_int Try.underlying3 t1
  obtain rfl : c1 = .int .i64 a1 := by simpa using q1
  obtain ⟨k2, z2, rfl, r2, l2, e2⟩ := sl_ints t2
  obtain ⟨a3, q3, _, w3⟩ := DataW.trod_int Try.underlying3 t3
  obtain rfl : c3 = .int .i64 a3 := by simpa using q3
  obtain ⟨a4, q4, _, w4⟩ := DataW.trod_int Try.underlying5 t4
  obtain rfl : c4 = .int .u8 a4 := by simpa using q4
  obtain ⟨a5, q5, _, w5⟩ := DataW.trod_int Try.underlying5 t5
  obtain rfl : c5 = .int .u8 a5 := by simpa using q5
  obtain ⟨a6, q6, _, w6⟩ := DataW.trod_string Try.underlying9 t6
  obtain rfl : c6 = .string a6 := by simpa using q6
  obtain ⟨a7, q7, _⟩ := DataW.trod_bool Try.underlying4 t7
  obtain rfl : c7 = .bool a7 := by simpa using q7
  obtain ⟨a8, q8, _, w8⟩ := DataW.trod_int Try.underlying3 t8
  obtain rfl : c8 = .int .i64 a8 := by simpa using q8
  obtain ⟨a9, q9, _⟩ := DataW.trod_bool Try.underlying4 t9
  obtain rfl : c9 = .bool a9 := by simpa using q9
  obtain ⟨a10, q10, _⟩ := DataW.trod_bool Try.underlying4 t10
  obtain rfl : c10 = .bool a10 := by simpa using q10
  obtain ⟨a11, q11, _⟩ := DataW.trod_bool Try.underlying4 t11
  obtain rfl : c11 = .bool a11 := by simpa using q11
  obtain ⟨a12, q12, _⟩ := DataW.trod_bool Try.underlying4 t12
  obtain rfl : c12 = .bool a12 := by simpa using q12
  obtain ⟨k13, z13, rfl, r13, l13, e13⟩ := sl_ints t13
  obtain ⟨a14, q14, _, w14⟩ := DataW.trod_int Try.underlying3 t14
  obtain rfl : c14 = .int .i64 a14 := by simpa using q14
  obtain ⟨a15, q15, _, w15⟩ := DataW.trod_int Try.underlying3 t15
  obtain rfl : c15 = .int .i64 a15 := by simpa using q15
  obtain ⟨a16, q16, _, w16⟩ := DataW.trod_int Try.underlying3 t16
  obtain rfl : c16 = .int .i64 a16 := by simpa using q16
  obtain ⟨k17, z17, rfl, r17, l17, e17⟩ := sl_ints t17
  obtain ⟨a18, q18, _⟩ := DataW.trod_bool Try.underlying4 t18
  obtain rfl : c18 = .bool a18 := by simpa using q18
  obtain ⟨a19, q19, _⟩ := DataW.trod_bool Try.underlying4 t19
  obtain rfl : c19 = .bool a19 := by simpa using q19
  exact ⟨{ path := k0, limit := a1, closers := k2, onPath := a3, state := a4, number := a5, word := a6, escaped := a7, hex := a8, isName := a9, naming := a10, nameOver := a11, named := a12, name := k13, maxName := a14, keepDepth := a15, keepFrom := a16, kept := k17, over := a18, found := a19, broken := false }, ⟨z0, z2, z13, z17⟩, rfl, ⟨r0, l0, r2, l2, r13, l13, r17, l17⟩, ⟨e0, e2, e13, e17⟩, w6, (bounds_u8 w5).1, rfl⟩
end
end Go.Proofs.Qxb6602575a
