import Derived.Test.Qxb6603658aV0
import Derived.Test.Qxb6603658aRows
import Derived.Maps.OwnSet
import Derived.WalkKit
import Derived.StringKeys
namespace Go.Proofs.Qxb6603658a
open Go.RowKit Go.Maps

/-- How an element of type held reads. -/
def heldElem : Value → Option (DataW Unit × List MemPlace)
  | .agg cs => match cs.toList with
    | [.bool m, .int .i32 a, .int .i64 p] => some (.agg [.lit (.bool m), .lit (.int .i32 a), .lit (.int .i64 p)], [])
    | _ => none
  | _ => none

/-- The element, as a value and as a datum. -/
def hm1 (o : Option (Bool × Nat)) : Bool := match o with | some p => p.1 | none => false
def ha1 (o : Option (Bool × Nat)) : Nat := match o with | some p => p.2 | none => 0
def hcells (o : Option (Bool × Nat)) : Array Value := #[.bool (hm1 o), .int .i32 (ha1 o : Nat), .int .i64 0]
def hdat (o : Option (Bool × Nat)) : DataW Unit := .agg [.lit (.bool (hm1 o)), .lit (.int .i32 (ha1 o : Nat)), .lit (.int .i64 0)]
theorem heldElem_mk (o : Option (Bool × Nat)) : heldElem (.agg (hcells o)) = some (hdat o, []) := rfl
theorem heldElem_inv {v : Value} {o : Option (Bool × Nat)} {ps : List MemPlace} (h : heldElem v = some (hdat o, ps)) : v = .agg (hcells o) := by
  unfold heldElem at h
  split at h
  · rename_i cs
    split at h
    · rename_i m a p heq
      simp [hdat] at h
      obtain ⟨⟨rfl, rfl, rfl⟩, _⟩ := h
      have : cs = #[Value.bool (hm1 o), .int .i32 (ha1 o : Nat), .int .i64 0] := by rw [← Array.toList_inj, heq]
      rw [this]; rfl
    · cases h
  · cases h

def key (x : ByteArray) : Lit := .string x.data.toList
theorem key_inj {x y : ByteArray} (h : key x = key y) : x = y := by
  unfold key at h
  have h1 : x.data.toList = y.data.toList := by injection h
  have h2 : x.data = y.data := Array.toList_inj.1 h1
  cases x; cases y; simp at h2; rw [h2]
theorem key_ok (x : ByteArray) : WideAt.IsKeyLit (key x) := trivial

theorem law9 : Keyed Try.prog 9 := string_keyed Try.underlying9
theorem zero35 (w : World) : (zeroValue 35).run Try.prog w = .ok (.agg (hcells none)) w := by kernel_rfl

/-- Block B is a map that holds f, of N entries. -/
def HM (w : World) (B n : Nat) (f : ByteArray → Option (Bool × Nat)) (N : Nat) : Prop :=
  ∃ D : DataW Unit, w.ownsMap Try.prog 9 heldElem B n D ∧ Maps.size D = N ∧ ∀ x, Maps.has D (key x) = (f x).isSome ∧ D.atKey (key x) (hdat none) = hdat (f x)

theorem HM.made (w : World) : HM (w.alloc (.map #[] 0)) w.heap.size 0 (fun _ => none) 0 :=
  ⟨.map [], World.ownsMap_made _ _ _ _, rfl, fun _ => ⟨rfl, rfl⟩⟩
theorem HM.kept {w w' : World} {B n N : Nat} {f : ByteArray → Option (Bool × Nat)} (h : HM w B n f N) (hb : Below w.heap.size w w') : HM w' B n f N := by
  obtain ⟨D, ho, r⟩ := h
  have hlt := ho.lt
  obtain ⟨es, clock, h1, h2⟩ := ho
  exact ⟨D, ⟨es, clock, (hb.block B hlt).trans h1, h2⟩, r⟩
theorem HM.lt {w : World} {B n N : Nat} {f : ByteArray → Option (Bool × Nat)} (h : HM w B n f N) : B < w.heap.size := by
  obtain ⟨D, ho, r⟩ := h; exact ho.lt
theorem HM.mono {w : World} {B n n' N : Nat} {f : ByteArray → Option (Bool × Nat)} (h : HM w B n f N) (hn : n ≤ n') : HM w B n' f N := by
  obtain ⟨D, ho, r⟩ := h; exact ⟨D, ho.mono hn, r⟩

theorem HM.put {w w' : World} {B n N : Nat} {f : ByteArray → Option (Bool × Nat)} {D : DataW Unit} (ho : w.ownsMap Try.prog 9 heldElem B n D) (hN : Maps.size D = N)
    (hf : ∀ x, Maps.has D (key x) = (f x).isSome ∧ D.atKey (key x) (hdat none) = hdat (f x)) (x : ByteArray) (v : Bool × Nat) (h1 : w'.ownsMap Try.prog 9 heldElem B (n + 1) (D.put (key x) (hdat (some v)))) :
    HM w' B (n + 1) (fun y => if x = y then some v else f y) (N + (if (f x).isSome then 0 else 1)) := by
  refine ⟨_, h1, ?_, fun y => ?_⟩
  · rw [Maps.size_put (ho.tidy law9), (hf x).1, hN]
    cases (f x).isSome <;> simp
  · by_cases hxy : x = y
    · subst hxy
      rw [Maps.has_put_same ho.isMap (key_ok x), Maps.atKey_put_same ho.isMap (key_ok x)]
      simp
    · have hne : key y ≠ key x := fun h => hxy (key_inj h).symm
      rw [Maps.has_put_other hne, Maps.atKey_put_other hne]
      simp only [hxy, if_false]
      exact hf y

/-- The store into the map, for the walk. -/
theorem wpList_store_held {w : World} {ops : Array Oper} {rest : List Oper} {o : Oper} {a : Act} {Q : Exit → Act → World → Prop} (hg : o.guard = none) (m x v : Operand) (hop : o.op = Op.mapUpdate 26 m x v)
    (B n N : Nat) (f : ByteArray → Option (Bool × Nat)) (s : ByteArray) (y : Bool × Nat) (hm : a.eval m = .map (some B)) (hx : a.eval x = .string s) (hv : a.eval v = .agg (hcells (some y))) (hn : n < maxLen) (hs : s.size ≤ maxLen) (h : HM w B n f N)
    (hK : ∀ w', HM w' B (n + 1) (fun z => if s = z then some y else f z) (N + (if (f s).isSome then 0 else 1)) → w.grownBy w' (some B) → wpList Try.prog ops Q rest (a.put o.dst undef) w') :
    wpList Try.prog ops Q (o :: rest) a w := by
  obtain ⟨D, ho, hN, hf⟩ := h
  exact wpList_mapUpdate_own w hg m x v 26 hop 9 35 law9 Try.underlying26 heldElem B n D hm ho hn (.string s) (.agg (hcells (some y))) (key s) hx hv (WideMaps.keyOf_string_mk Try.underlying9 hs) (hdat (some y)) [] (heldElem_mk _)
    (fun w' h1 h2 => hK w' (HM.put ho hN hf s y h1) h2)

/-- The look-up. -/
theorem wpList_look_held {w : World} {ops : Array Oper} {rest : List Oper} {o : Oper} {a : Act} {Q : Exit → Act → World → Prop} (hg : o.guard = none) (m x : Operand) (hop : o.op = Op.lookup 26 m x true)
    (B n N : Nat) (f : ByteArray → Option (Bool × Nat)) (s : ByteArray) (hm : a.eval m = .map (some B)) (hx : a.eval x = .string s) (hs : s.size ≤ maxLen) (h : HM w B n f N)
    (hK : wpList Try.prog ops Q rest (a.put o.dst (.tuple #[.agg (hcells (f s)), .bool (f s).isSome])) w) :
    wpList Try.prog ops Q (o :: rest) a w := by
  obtain ⟨D, ho, hN, hf⟩ := h
  refine wpList_lookup_own_ok w hg m x 26 hop 9 35 law9 Try.underlying26 heldElem (zero35 w) (hdat none) [] (heldElem_mk none) B n D hm ho (.string s) (key s) hx (WideMaps.keyOf_string_mk Try.underlying9 hs) (fun v ps hv => ?_)
  rw [(hf s).2] at hv
  rw [heldElem_inv hv, (hf s).1]
  exact hK

/-- len. -/
theorem wpList_len_held {w : World} {ops : Array Oper} {rest : List Oper} {o : Oper} {a : Act} {Q : Exit → Act → World → Prop} (hg : o.guard = none) (m : Operand) (hop : o.op = Op.call { callee := Callee.builtin Builtin.len, args := #[m], argTypes := #[26] })
    (B n N : Nat) (f : ByteArray → Option (Bool × Nat)) (hm : a.eval m = .map (some B)) (h : HM w B n f N)
    (hK : wpList Try.prog ops Q rest (a.put o.dst (.int .i64 (N : Nat))) w) :
    wpList Try.prog ops Q (o :: rest) a w := by
  obtain ⟨D, ho, hN, hf⟩ := h
  refine wpList_len_own w hg m 26 hop 9 35 Try.underlying26 heldElem B n D hm ho ?_
  rw [hN]; exact hK
theorem HM.len {w : World} {B n N : Nat} {f : ByteArray → Option (Bool × Nat)} (h : HM w B n f N) (ty : TypeId) : (Builtin.len_ #[26] ty #[.map (some B)]).run Try.prog w = .ok (.int .i64 (N : Nat)) w := by
  obtain ⟨D, ho, hN, hf⟩ := h
  rw [ho.len Try.underlying26 ty, hN]

theorem run_makeMap_hint (n : Int) (w : World) : (Instr.makeMap 26 (some (.int .i64 n))).run Try.prog w = .ok (.map (some w.heap.size)) (w.alloc (.map #[] 0)) := by
  unfold Instr.makeMap
  simp [run_underlying Try.underlying26, Result.andThen]
  rfl
end Go.Proofs.Qxb6603658a
