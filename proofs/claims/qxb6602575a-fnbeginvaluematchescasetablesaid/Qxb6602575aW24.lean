import Derived.Test.Qxb6602575aW11
import Derived.Test.Qxb6602575aPlain6
import Derived.Test.Qxb6602575aW18
import Derived.Test.Qxb6602575aW22
namespace Go.Proofs.Qxb6602575a
open Go.RowKit

/-- The stream behind a number, ended or not, its kept slice k; and what it keeps. -/
def fin (ended : Bool) (s : Str) (ks zs : List Int) (e : Nat) (k : Sl) : Str := if ended then endS s ks zs e k else { s with kept := k }
def finC (ended : Bool) (s : Str) (ks zs : List Int) (e : Nat) : List Int := if ended then endC s ks zs e else ks

theorem fin_path (ended : Bool) (s : Str) (ks zs : List Int) (e : Nat) (k : Sl) : (fin ended s ks zs e k).path = s.path := by
  cases ended <;> simp [fin, endS]; split <;> rfl
theorem fin_closers (ended : Bool) (s : Str) (ks zs : List Int) (e : Nat) (k : Sl) : (fin ended s ks zs e k).closers = s.closers := by
  cases ended <;> simp [fin, endS]; split <;> rfl
theorem fin_name (ended : Bool) (s : Str) (ks zs : List Int) (e : Nat) (k : Sl) : (fin ended s ks zs e k).name = s.name := by
  cases ended <;> simp [fin, endS]; split <;> rfl
theorem fin_kept (ended : Bool) (s : Str) (ks zs : List Int) (e : Nat) (k : Sl) : (fin ended s ks zs e k).kept = k := by
  cases ended <;> simp [fin, endS]; split <;> rfl

/-- The model's stream has the fields of the walked one. -/
theorem fin_cells (ended bad : Bool) (s : Str) (p c n kk : Option Addr) (ks zs : List Int) (e : Nat) (k k' : Sl) :
    (fin ended s ks zs e k).cells30 = ({ fin ended (s.with4 p c n kk) ks zs e k' with broken := bad, path := s.path, closers := s.closers, name := s.name, kept := k } : Str).cells30 := by
  cases ended with
  | false => rfl
  | true =>
    show (endS s ks zs e k).cells30 = ({ endS (s.with4 p c n kk) ks zs e k' with broken := bad, path := s.path, closers := s.closers, name := s.name, kept := k } : Str).cells30
    unfold endS
    have h1 : (s.with4 p c n kk).keepDepth = s.keepDepth := rfl
    have h2 : (s.with4 p c n kk).closers.n = s.closers.n := rfl
    rw [h1, h2]
    split
    · rfl
    · rfl
theorem finC_with (ended : Bool) (s : Str) (p c n kk : Option Addr) (ks zs : List Int) (e : Nat) : finC ended (s.with4 p c n kk) ks zs e = finC ended s ks zs e := by
  cases ended <;> rfl

theorem Owned.sound {w : World} {base : Nat} {s : Str} {C : Con} (h : Owned w base s C) (h1 : s.path.n ≤ 1048576) (h2 : s.closers.n ≤ 1048576) (h3 : s.name.n ≤ 1048576) (h4 : s.kept.n ≤ 1048576) : Sound s := by
  have key : ∀ (x : Sl) (e : Nat) (xs : List Value), w.ownsRow base e 1 x.v x.n xs → x.a = none → x.c = 0 := by
    intro x e xs hx ha
    obtain ⟨_, ⟨h1, _⟩ | ⟨g, cap, cur, h1, _⟩⟩ := hx
    · simp [Sl.v] at h1; exact h1.2.2
    · simp [Sl.v] at h1; rw [h1.1] at ha; cases ha
  exact ⟨key _ _ _ h.path, key _ _ _ h.closers, key _ _ _ h.name, key _ _ _ h.kept, h1, h2, h3, h4⟩

theorem Owned.only {w w' : World} {base g : Nat} {s x : Str} {C : Con} (h : Owned w base s C) (hg : Strm w g x) (ho : Only g w w') : Owned w' base s C :=
  ⟨own_strm h.path hg (by decide) ho, h.pathC, own_strm h.closers hg (by decide) ho, h.closersC, own_strm h.name hg (by decide) ho, h.nameC, own_strm h.kept hg (by decide) ho, h.keptC⟩

theorem Blk.only {w w' : World} {g b t : Nat} {cs : Array Value} (h : Blk w b t cs) (ho : Only g w w') (hb : b ≠ g) : Blk w' b t cs := by
  unfold Blk; rw [ho.block b h.lt hb]; exact h
theorem Blk.ne_strm {w : World} {g b t : Nat} {cs : Array Value} {s : Str} (h : Blk w b t cs) (hg : Strm w g s) (ht : t ≠ 59) : b ≠ g := by
  rintro rfl; unfold Blk at h; unfold Strm at hg; rw [h] at hg; simp at hg; exact ht hg.2

theorem reads_fin {w : World} {base : Nat} {s : Str} {C : Con} {k : Sl} {kc : List Int} (h : Owned w base s C) (hk : w.ownsRow 0 5 1 k.v k.n (bys kc)) (ended bad : Bool) (ks zs : List Int) (e : Nat) (q : Int) :
    Reads w { fin ended { s with number := q } ks zs e k with broken := bad } { C with kept := kc } := by
  have r := h.reads
  refine ⟨?_, ?_, ?_, ?_, ?_, ?_, ?_, ?_⟩
  · show RdS w (fin ended { s with number := q } ks zs e k).path.a C.path; rw [fin_path]; exact r.path
  · show C.path.length = (fin ended { s with number := q } ks zs e k).path.n; rw [fin_path]; exact r.pathN
  · show Rd w (fin ended { s with number := q } ks zs e k).closers.a C.closers; rw [fin_closers]; exact r.closers
  · show C.closers.length = (fin ended { s with number := q } ks zs e k).closers.n; rw [fin_closers]; exact r.closersN
  · show Rd w (fin ended { s with number := q } ks zs e k).name.a C.name; rw [fin_name]; exact r.name
  · show C.name.length = (fin ended { s with number := q } ks zs e k).name.n; rw [fin_name]; exact r.nameN
  · show Rd w (fin ended { s with number := q } ks zs e k).kept.a kc; rw [fin_kept]; exact rd_of_owns hk
  · show kc.length = (fin ended { s with number := q } ks zs e k).kept.n; rw [fin_kept]; have := owns_len hk; rwa [bys_length] at this

theorem reads_w {w : World} {base : Nat} {s V : Str} {C : Con} {k : Sl} {kc : List Int} (h : Owned w base s C) (hk : Rd w k.a kc) (hn : kc.length = k.n) :
    Reads w { V with path := s.path, closers := s.closers, name := s.name, kept := k } { C with kept := kc } := by
  have r := h.reads
  exact ⟨r.path, r.pathN, r.closers, r.closersN, r.name, r.nameN, hk, hn⟩

/-- numberRest and the model of the scan say the same. -/
theorem nr_link {ph n : Nat} {zs ks : List Int} {used : Int} {ended bad : Bool} {phn g : Nat} {s : Str} {w5 w6 : World} {e : Ending} (hph : ph ≤ 7) (hn : n ≤ zs.length)
    (hsc : Scan (phText ph ++ zs.drop n) (phText ph).length (zs.length - n) used ended bad phn)
    (hs : Strm w5 g s) (hb : s.broken = false) (hk : w5.ownsRow 0 5 1 s.kept.v s.kept.n (bys ks))
    (hnr : NRpost (fun e q w' => VEpost g { s with number := (q : Nat) } ks zs e w5 w') g s zs n ph w5 e w6) :
    ∃ k : Sl, e = .returned (.int .i64 (if ended then (n : Int) + used else zs.length)) ∧
      Strm w6 g { fin ended { s with number := (phn : Nat) } ks zs ((n : Int) + used).toNat k with broken := bad } ∧
      w6.ownsRow 0 5 1 k.v k.n (bys (finC ended { s with number := (phn : Nat) } ks zs ((n : Int) + used).toNat)) ∧ Only g w5 w6 := by
  unfold Scan at hsc
  rw [Pl.run_pre ph hph] at hsc
  rw [List.length_append, List.length_drop] at hsc
  unfold NRpost at hnr
  simp only at hsc
  have hlen : (Pl.run ph (zs.drop n)).1 ≤ zs.length - n := by have := Pl.run_le ph (zs.drop n); rwa [List.length_drop] at this
  have key : ∀ (v j : Nat) (b : Bool), ({ fin false { s with number := (v : Nat) } ks zs j s.kept with broken := b } : Str) = { s with number := (v : Nat), broken := b } := fun _ _ _ => rfl
  rcases hsc with ⟨h1, rfl, rfl, rfl, rfl⟩ | ⟨h1, h2, rfl, rfl, rfl, rfl⟩ | ⟨h1, h2, rfl, rfl, rfl, rfl⟩
  · rcases hnr with ⟨_, rfl, hs6, ho⟩ | ⟨h3, _⟩ | ⟨h3, _⟩
    · refine ⟨s.kept, rfl, ?_, ?_, ho⟩
      · rw [key]
        have : ({ s with number := ((Pl.run ph (zs.drop n)).2 : Nat), broken := false } : Str) = { s with number := ((Pl.run ph (zs.drop n)).2 : Nat) } := by rw [← hb]
        rw [this]; exact hs6
      · exact own_strm hk hs (by decide) ho
    · omega
    · omega
  · rcases hnr with ⟨h3, _⟩ | ⟨_, _, rfl, hve⟩ | ⟨_, h3, _⟩
    · omega
    · obtain ⟨k, hs6, hk6, ho⟩ := hve
      have e1 : (n : Int) + (((phText ph).length + (Pl.run ph (zs.drop n)).1 : Nat) - ((phText ph).length : Int)) = ((n + (Pl.run ph (zs.drop n)).1 : Nat) : Int) := by omega
      rw [e1, Int.toNat_natCast]
      refine ⟨k, rfl, ?_, hk6, ho⟩
      have : ({ fin true { s with number := ((Pl.run ph (zs.drop n)).2 : Nat) } ks zs (n + (Pl.run ph (zs.drop n)).1) k with broken := false } : Str) = endS { s with number := ((Pl.run ph (zs.drop n)).2 : Nat) } ks zs (n + (Pl.run ph (zs.drop n)).1) k := by
        unfold fin endS
        simp only [if_true]
        split <;> rw [← hb]
      rw [this]; exact hs6
    · rw [h2] at h3; cases h3
  · rcases hnr with ⟨h3, _⟩ | ⟨_, h3, _⟩ | ⟨_, _, rfl, hs6, ho⟩
    · omega
    · rw [h2] at h3; cases h3
    · refine ⟨s.kept, rfl, ?_, ?_, ho⟩
      · rw [key]; exact hs6
      · exact own_strm hk hs (by decide) ho

theorem scan_end {ph n : Nat} {zs : List Int} {used : Int} {bad : Bool} {phn : Nat} (hph : ph ≤ 7) (hn : n ≤ zs.length) (hsc : Scan (phText ph ++ zs.drop n) (phText ph).length (zs.length - n) used true bad phn) : ∃ u : Nat, used = (u : Int) ∧ n + u < zs.length := by
  unfold Scan at hsc
  rw [Pl.run_pre ph hph] at hsc
  rw [List.length_append, List.length_drop] at hsc
  simp only at hsc
  rcases hsc with ⟨_, _, h, _⟩ | ⟨h1, h2, rfl, _⟩ | ⟨_, _, _, h, _⟩
  · cases h
  · exact ⟨(Pl.run ph (zs.drop n)).1, by omega, by omega⟩
  · cases h
end Go.Proofs.Qxb6602575a
