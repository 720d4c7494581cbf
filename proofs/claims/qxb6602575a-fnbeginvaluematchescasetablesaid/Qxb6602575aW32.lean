import Derived.Test.Qxb6602575aW29
namespace Go.Proofs.Qxb6602575a
open Go.RowKit

theorem tN_path (s : Str) (i : Int) (k : Sl) : (tN s i k).path = s.path := by
  unfold tN
  split
  · split <;> rfl
  · rfl
theorem tN_name (s : Str) (i : Int) (k : Sl) : (tN s i k).name = s.name := by
  unfold tN
  split
  · split <;> rfl
  · rfl
theorem tN_with (s : Str) (p c n kk : Option Addr) (i : Int) (k : Sl) : tN (s.with4 p c n kk) i k = { tN s i k with path := (s.with4 p c n kk).path, closers := (s.with4 p c n kk).closers, name := (s.with4 p c n kk).name } := by
  unfold tN
  show (if s.named = true then (if s.onPath = (s.path.n : Int) then _ else _) else _) = _
  split
  · split <;> rfl
  · rfl
theorem kN_with (s : Str) (p c n kk : Option Addr) (ks : List Int) : kN (s.with4 p c n kk) ks = kN s ks := rfl
theorem entN_with (s : Str) (p c n kk : Option Addr) (x : Int) : entN (s.with4 p c n kk) x = entN s x := rfl
theorem bump_with (s : Str) (p c n kk : Option Addr) (x : Bool) : bump (s.with4 p c n kk) x = bump s x := rfl

/-- fin looks at few fields. -/
theorem fin_swap (ended : Bool) (s t : Str) (ks zs : List Int) (E : Nat) (k k' : Sl) (p cl n : Sl) (h1 : t = { s with path := p, closers := cl, name := n, kept := t.kept }) (h2 : cl.n = s.closers.n) (P0 N0 : Sl) (hP : s.path = P0) (hN : s.name = N0) :
    fin ended s ks zs E k = { fin ended t ks zs E k' with broken := s.broken, path := P0, closers := s.closers, name := N0, kept := k } ∧ finC ended t ks zs E = finC ended s ks zs E := by
  subst hP hN
  rw [h1]
  cases ended with
  | false => exact ⟨rfl, rfl⟩
  | true =>
    refine ⟨?_, ?_⟩
    · show endS s ks zs E k = { endS { s with path := p, closers := cl, name := n, kept := t.kept } ks zs E k' with broken := s.broken, path := s.path, closers := s.closers, name := s.name, kept := k }
      unfold endS
      show (if s.keepDepth = (s.closers.n : Int) then _ else _) = { (if s.keepDepth = (cl.n : Int) then _ else _ : Str) with broken := s.broken, path := s.path, closers := s.closers, name := s.name, kept := k }
      rw [h2]
      unfold stE
      show (if s.keepDepth = (s.closers.n : Int) then ({ s with over := _, kept := k, keepDepth := -1, found := _, state := (if s.closers.n = 0 then 7 else 6) } : Str) else { s with kept := k, state := (if s.closers.n = 0 then 7 else 6) }) = _
      split
      · show _ = ({ s with over := _, kept := k, keepDepth := -1, found := _, state := (if cl.n = 0 then 7 else 6) } : Str)
        rw [h2]; rfl
      · show _ = ({ s with kept := k, state := (if cl.n = 0 then 7 else 6) } : Str)
        rw [h2]
    · show endC { s with path := p, closers := cl, name := n, kept := t.kept } ks zs E = endC s ks zs E
      unfold endC
      show (if s.keepDepth = (cl.n : Int) then _ else _) = _
      rw [h2]; rfl

/-- How the table of a stream and of its copy differ: in the slices alone. -/
structure Rel (s s2 : Str) (O1 O2 : BOut) : Prop where
  ret : O2.ret = O1.ret
  bad : O2.bad = O1.bad
  kc : O2.kc = O1.kc
  cc : O2.cc = O1.cc
  cells : ∀ (k cl k' cl' : Sl) (b : Bool), (O1.S k cl).cells30 = ({ O2.S k' cl' with broken := b, path := s.path, closers := cl, name := s.name, kept := k } : Str).cells30
  path : ∀ k cl, (O2.S k cl).path = s2.path
  name : ∀ k cl, (O2.S k cl).name = s2.name
  closers : ∀ k cl, (O2.S k cl).closers = cl
  kept : ∀ k cl, (O2.S k cl).kept = k

/-- tN's fields but for the slices. -/
theorem tN_same (s : Str) (p c n kk : Option Addr) (i : Int) (k k' : Sl) : ({ tN (s.with4 p c n kk) i k' with path := s.path, closers := s.closers, name := s.name, kept := k } : Str) = tN s i k := by
  unfold tN
  show ({ (if s.named = true then (if s.onPath = (s.path.n : Int) then _ else _) else _ : Str) with path := s.path, closers := s.closers, name := s.name, kept := k } : Str) = _
  split
  · split <;> rfl
  · rfl

theorem table_rel (s : Str) (p c n kk : Option Addr) (C : Con) (zs : List Int) (i : Nat) (used : Int) (ended bad : Bool) (phn : Nat) :
    Rel s (s.with4 p c n kk) (table s C zs i used ended bad phn) (table (s.with4 p c n kk) C zs i used ended bad phn) := by
  have hk := fun (k k' : Sl) => (tN_same s p c n kk i k k').symm
  have hp := tN_path (s.with4 p c n kk) (i : Int)
  have hn := tN_name (s.with4 p c n kk) (i : Int)
  have hq := tN_kept (s.with4 p c n kk) (i : Int)
  unfold table
  show Rel s (s.with4 p c n kk) _ (if Pl.bt zs i = 123 ∨ Pl.bt zs i = 91 then (if s.closers.n = 10000 then _ else _) else _)
  split
  · split
    · exact ⟨rfl, rfl, rfl, rfl, fun k cl k' cl' b => by show ({ tN s i k with closers := cl } : Str).cells30 = _; rw [hk k k']; rfl, fun k cl => hp k, fun k cl => hn k, fun k cl => rfl, fun k cl => hq k⟩
    · exact ⟨rfl, rfl, rfl, rfl, fun k cl k' cl' b => by
        show ({ tN s i k with closers := cl, state := if Pl.bt zs i = 123 then 1 else 4, onPath := bump s (entN s (Pl.bt zs i)) } : Str).cells30 = _
        rw [hk k k']; rfl, fun k cl => hp k, fun k cl => hn k, fun k cl => rfl, fun k cl => hq k⟩
  · split
    · exact ⟨rfl, rfl, rfl, rfl, fun k cl k' cl' b => by show ({ tN s i k with closers := cl, isName := false, naming := false, state := 8 } : Str).cells30 = _; rw [hk k k']; rfl, fun k cl => hp k, fun k cl => hn k, fun k cl => rfl, fun k cl => hq k⟩
    · split
      · exact ⟨rfl, rfl, rfl, rfl, fun k cl k' cl' b => by show ({ tN s i k with closers := cl, word := ⟨#[114, 117, 101]⟩, state := 10 } : Str).cells30 = _; rw [hk k k']; rfl, fun k cl => hp k, fun k cl => hn k, fun k cl => rfl, fun k cl => hq k⟩
      · split
        · exact ⟨rfl, rfl, rfl, rfl, fun k cl k' cl' b => by show ({ tN s i k with closers := cl, word := ⟨#[97, 108, 115, 101]⟩, state := 10 } : Str).cells30 = _; rw [hk k k']; rfl, fun k cl => hp k, fun k cl => hn k, fun k cl => rfl, fun k cl => hq k⟩
        · split
          · exact ⟨rfl, rfl, rfl, rfl, fun k cl k' cl' b => by show ({ tN s i k with closers := cl, word := ⟨#[117, 108, 108]⟩, state := 10 } : Str).cells30 = _; rw [hk k k']; rfl, fun k cl => hp k, fun k cl => hn k, fun k cl => rfl, fun k cl => hq k⟩
          · split
            · have key : ∀ k k' : Sl, _ := fun k k' => fin_swap ended { tN s i k with number := (phn : Nat), state := 9 } { tN (s.with4 p c n kk) i k' with number := (phn : Nat), state := 9 } (kN s C.kept) zs (((i + 1 : Nat) : Int) + used).toNat k k' (s.with4 p c n kk).path (s.with4 p c n kk).closers (s.with4 p c n kk).name (by rw [tN_with]; rw [← tN_put s i k k']) (by show s.closers.n = (tN s i k).closers.n; rw [tN_closers]) s.path s.name (tN_path s i k) (tN_name s i k)
              refine ⟨rfl, rfl, ?_, rfl, ?_, ?_, ?_, fun k cl => rfl, ?_⟩
              · exact (key nilS nilS).2
              · intro k cl k' cl' b
                have h1 := (key k k').1
                show ({ fin ended { tN s i k with number := (phn : Nat), state := 9 } (kN s C.kept) zs (((i + 1 : Nat) : Int) + used).toNat k with closers := cl } : Str).cells30 = _
                rw [h1]
                rfl
              · intro k cl; show (fin ended _ _ _ _ _).path = _; rw [fin_path]; exact hp k
              · intro k cl; show (fin ended _ _ _ _ _).name = _; rw [fin_name]; exact hn k
              · intro k cl; show (fin ended _ _ _ _ _).kept = _; rw [fin_kept]
            · exact ⟨rfl, rfl, rfl, rfl, fun k cl k' cl' b => by show ({ tN s i k with closers := cl } : Str).cells30 = _; rw [hk k k']; rfl, fun k cl => hp k, fun k cl => hn k, fun k cl => rfl, fun k cl => hq k⟩
end Go.Proofs.Qxb6602575a
