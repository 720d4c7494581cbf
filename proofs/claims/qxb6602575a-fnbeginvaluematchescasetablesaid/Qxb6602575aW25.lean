import Derived.Test.Qxb6602575aW24
import Derived.Test.Qxb6602575aRest
namespace Go.Proofs.Qxb6602575a
open Go.RowKit

/-- What is left of a stream in the middle of a number by numberRest, in the words of the model's scan. -/
def RMpost (g n : Nat) (zs ks : List Int) (s : Str) (used : Int) (ended bad : Bool) (phn : Nat) (w : World) (e : Ending) (w' : World) : Prop :=
  ∃ k : Sl, e = .returned (.int .i64 (if ended then (n : Int) + used else zs.length)) ∧
    Strm w' g { fin ended { s with number := (phn : Nat) } ks zs ((n : Int) + used).toNat k with broken := bad } ∧
    w'.ownsRow 0 5 1 k.v k.n (bys (finC ended { s with number := (phn : Nat) } ks zs ((n : Int) + used).toNat)) ∧ Only g w w'

theorem rest_model (g n ph : Nat) (ao : Option Addr) (zs ks : List Int) (s : Str) (w : World) (used : Int) (ended bad : Bool) (phn : Nat) (hs : Strm w g s) (hk : w.ownsRow 0 5 1 s.kept.v s.kept.n (bys ks)) (hkc : s.kept.c = s.kept.n)
    (hp : w.ownsRow 0 5 1 (.slice ao zs.length zs.length) zs.length (bys zs)) (hph : ph ≤ 7) (hq : s.number = (ph : Nat)) (hb : s.broken = false) (hn : n ≤ zs.length) (hz : ks.length + zs.length ≤ 1099511627776)
    (hf : s.keepDepth = (s.closers.n : Int) → 0 ≤ s.keepFrom ∧ s.keepFrom ≤ n) (hsc : Scan (phText ph ++ zs.drop n) (phText ph).length (zs.length - n) used ended bad phn) :
    Calls Try.prog 40 #[.pointer (some ⟨g, 0, none⟩), .slice ao zs.length zs.length, .int .i64 n] w fun e w' => RMpost g n zs ks s used ended bad phn w e w' := by
  refine (numberRest_any (fun e q w' => VEpost g { s with number := (q : Nat) } ks zs e w w') g n ph ao zs s w hs hp (by omega) hn hph hq hb ?_).mono ?_
  · intro e q W he1 he2 hS hO
    refine (valueEnded_any g e { s with number := (q : Nat) } ks zs ao W hS (own_strm hk hs (by decide) hO) hkc (own_strm hp hs (by decide) hO) he2 (fun h => ?_) hz).mono ?_
    · obtain ⟨h1, h2⟩ := hf h
      exact ⟨h1, by show s.keepFrom ≤ _; omega⟩
    · rintro e' w' ⟨h1, k, h2, h3, h4⟩
      exact ⟨h1, k, h2, h3, hO.trans h4⟩
  · intro e w' h
    exact nr_link hph hn hsc hs hb hk h

theorem rest_model24 (g n ph : Nat) (ao : Option Addr) (zs ks : List Int) (s : Str) (w : World) (used : Int) (ended bad : Bool) (phn : Nat) (hs : Strm w g s) (hk : w.ownsRow 0 5 1 s.kept.v s.kept.n (bys ks)) (hkc : s.kept.c = s.kept.n)
    (hp : w.ownsRow 0 5 1 (.slice ao zs.length zs.length) zs.length (bys zs)) (hph : ph ≤ 7) (hq : s.number = (ph : Nat)) (hb : s.broken = false) (hn : n ≤ zs.length) (hz : ks.length + zs.length ≤ 1099511627776)
    (hf : s.keepDepth = (s.closers.n : Int) → 0 ≤ s.keepFrom ∧ s.keepFrom ≤ n) (hsc : Scan (phText ph ++ zs.drop n) (phText ph).length (zs.length - n) used ended bad phn) :
    Calls Try.prog 24 #[.pointer (some ⟨g, 0, none⟩), .slice ao zs.length zs.length, .int .i64 n] w fun e w' => RMpost g n zs ks s used ended bad phn w e w' :=
  zzNumberRest_any g _ _ w ((rest_model g n ph ao zs ks s w used ended bad phn hs hk hkc hp hph hq hb hn hz hf hsc).mono fun e w' h => ⟨by obtain ⟨k, h1, _⟩ := h; exact ⟨_, h1⟩, h⟩)

theorem rd_cut {w : World} {b off : Nat} {zs : List Int} (h : Rd w (some ⟨b, off, none⟩) zs) (m fr : Nat) : Rd w (some ⟨b, off + fr, none⟩) ((zs.take m).drop fr) := by
  have h1 := rd_drop (rd_take h m) fr
  have e : Option.map (fun x : Addr => x.add fr) (some ⟨b, off, none⟩) = some ⟨b, off + fr, none⟩ := by simp [Addr.add]
  rw [e] at h1; exact h1

set_option maxHeartbeats 1000000 in
theorem keepModel_own (ak aa : Option Addr) (lk ck la ca : Nat) (ks ds : List Int) (over : Bool) (limit : Int) (w : World) (ho : w.ownsRow 0 5 1 (.slice ak lk ck) lk (bys ks)) (ha : Rd w aa ds) (hlk : ks.length = lk) (hla : ds.length = la) (hz : lk + la ≤ 1099511627776) :
    Calls Try.prog 21 #[.slice ak lk ck, .bool over, .slice aa la ca, .int .i64 limit] w fun e w' => ∃ nk : Sl, e = .returned (.tuple #[nk.v, .bool (keepO lk over la limit)]) ∧ w'.ownsRow 0 5 1 nk.v nk.n (bys (keepC ks over ds limit)) ∧ Below w.heap.size w w' := by
  have hk := rd_of_owns ho
  cases over with
  | true =>
    have e1 : keepO lk true la limit = true := rfl
    have e2 : keepC ks true ds limit = ks := rfl
    rw [e1, e2]
    go_enter Try.func21, Try.ntmps21
    go_wp2_with fail
    go_ret2
    exact ⟨⟨ak, lk, ck⟩, rfl, ho, Below.refl _ _⟩
  | false =>
    by_cases hl : limit < (lk : Int) + (la : Int)
    · have e1 : keepO lk false la limit = true := by simp [keepO, hl]
      have e2 : keepC ks false ds limit = [] := by simp [keepC, hlk, hla, hl]
      rw [e1, e2]
      clear e1 e2
      go_enter Try.func21, Try.ntmps21
      go_wp2_with fail
      go_ret2
      exact ⟨nilS, rfl, World.ownsRow_nil _ _ _ _, Below.refl _ _⟩
    · have e1 : keepO lk false la limit = false := by simp [keepO, hl]
      have e2 : keepC ks false ds limit = ks ++ ds := by simp [keepC, hlk, hla, hl]
      rw [e1, e2]
      clear e1 e2
      have HK : Hid (Rd w ak ks) := hk
      have HA : Hid (Rd w aa ds) := ha
      have HLK : Hid (ks.length = lk) := hlk
      have HLA : Hid (ds.length = la) := hla
      clear hk ha hlk hla ho
      go_enter Try.func21, Try.ntmps21
      go_wp2_with fail
      refine (concat_any _ _ _ _ _ _ ks ds _ HK.out HA.out HLK.out HLA.out hz).mono ?_
      rintro e w1 ⟨ao, rfl, ho, b1⟩
      have HO : Hid (w1.ownsRow 0 5 1 (.slice ao (lk + la) (lk + la)) (lk + la) (bys (ks ++ ds))) := own_base ho (Nat.zero_le _)
      have HB : Hid (Below w.heap.size w w1) := b1
      clear ho b1
      go_wp2_with fail
      go_ret2
      exact ⟨⟨ao, lk + la, lk + la⟩, rfl, HO.out, HB.out⟩

/-- jsb1KeepModel in the words of the stream behind valueEnded. -/
theorem keepModel_end {s : Str} {ks zs : List Int} {m fr : Nat} (hd : s.keepDepth = (s.closers.n : Int)) (hfr : s.keepFrom = (fr : Int)) (hm : fr ≤ m) (hml : m ≤ zs.length) (hz : ks.length + zs.length ≤ 1099511627776)
    (b off : Nat) (W : World) (hk : W.ownsRow 0 5 1 s.kept.v s.kept.n (bys ks)) (hp : Rd W (some ⟨b, off, none⟩) zs) :
    Calls Try.prog 21 #[.slice s.kept.a s.kept.n s.kept.c, .bool s.over, .slice (some ⟨b, off + fr, none⟩) (m - fr) (zs.length - fr), .int .i64 s.limit] W fun e w' =>
      ∃ nk : Sl, e = .returned (.tuple #[nk.v, .bool (endO s ks zs m)]) ∧ w'.ownsRow 0 5 1 nk.v nk.n (bys (endC s ks zs m)) ∧ Below W.heap.size W w' := by
  have hkn : ks.length = s.kept.n := by have := owns_len hk; rwa [bys_length] at this
  have hoff : offered s zs m = (zs.take m).drop fr := by unfold offered; rw [hfr]; rfl
  have hol : ((zs.take m).drop fr).length = m - fr := by simp; omega
  have hO : keepO s.kept.n s.over (m - fr) s.limit = endO s ks zs m := by unfold endO; rw [hoff, hol, hkn]
  have hC : keepC ks s.over ((zs.take m).drop fr) s.limit = endC s ks zs m := by unfold endC; rw [if_pos hd, hoff]
  have h := keepModel_own s.kept.a (some ⟨b, off + fr, none⟩) s.kept.n s.kept.c (m - fr) (zs.length - fr) ks ((zs.take m).drop fr) s.over s.limit W hk (rd_cut hp m fr) hkn hol (by omega)
  rw [hO, hC] at h
  exact h

/-! The fields of the model's stream. -/
section
variable {w : World} {g : Nat} {s : Str}
theorem Blk.fState (h : Blk w g 30 s.cells30) (q : Int) : Blk (w.setCell ⟨g, 4, none⟩ (.int .u8 q)) g 30 ({ s with state := q } : Str).cells30 := h.set _ _ rfl
theorem Blk.fNumber (h : Blk w g 30 s.cells30) (q : Int) : Blk (w.setCell ⟨g, 5, none⟩ (.int .u8 q)) g 30 ({ s with number := q } : Str).cells30 := h.set _ _ rfl
theorem Blk.fKept (h : Blk w g 30 s.cells30) (k : Sl) : Blk (w.setCell ⟨g, 17, none⟩ k.v) g 30 ({ s with kept := k } : Str).cells30 := h.set _ _ rfl
theorem Blk.fOver (h : Blk w g 30 s.cells30) (q : Bool) : Blk (w.setCell ⟨g, 18, none⟩ (.bool q)) g 30 ({ s with over := q } : Str).cells30 := h.set _ _ rfl
theorem Blk.fKeepDepth (h : Blk w g 30 s.cells30) (q : Int) : Blk (w.setCell ⟨g, 15, none⟩ (.int .i64 q)) g 30 ({ s with keepDepth := q } : Str).cells30 := h.set _ _ rfl
theorem Blk.fFound (h : Blk w g 30 s.cells30) (q : Bool) : Blk (w.setCell ⟨g, 19, none⟩ (.bool q)) g 30 ({ s with found := q } : Str).cells30 := h.set _ _ rfl
theorem Blk.fNamed (h : Blk w g 30 s.cells30) (q : Bool) : Blk (w.setCell ⟨g, 12, none⟩ (.bool q)) g 30 ({ s with named := q } : Str).cells30 := h.set _ _ rfl
theorem Blk.fKeepFrom (h : Blk w g 30 s.cells30) (q : Int) : Blk (w.setCell ⟨g, 16, none⟩ (.int .i64 q)) g 30 ({ s with keepFrom := q } : Str).cells30 := h.set _ _ rfl
theorem Blk.fClosers (h : Blk w g 30 s.cells30) (k : Sl) : Blk (w.setCell ⟨g, 2, none⟩ k.v) g 30 ({ s with closers := k } : Str).cells30 := h.set _ _ rfl
theorem Blk.fOnPath (h : Blk w g 30 s.cells30) (q : Int) : Blk (w.setCell ⟨g, 3, none⟩ (.int .i64 q)) g 30 ({ s with onPath := q } : Str).cells30 := h.set _ _ rfl
theorem Blk.fWord (h : Blk w g 30 s.cells30) (q : ByteArray) : Blk (w.setCell ⟨g, 6, none⟩ (.string q)) g 30 ({ s with word := q } : Str).cells30 := h.set _ _ rfl
theorem Blk.fIsName (h : Blk w g 30 s.cells30) (q : Bool) : Blk (w.setCell ⟨g, 9, none⟩ (.bool q)) g 30 ({ s with isName := q } : Str).cells30 := h.set _ _ rfl
theorem Blk.fNaming (h : Blk w g 30 s.cells30) (q : Bool) : Blk (w.setCell ⟨g, 10, none⟩ (.bool q)) g 30 ({ s with naming := q } : Str).cells30 := h.set _ _ rfl
end

theorem own_onlyB {w w' : World} {base e g n : Nat} {v : Value} {xs : List Value} {cs : Array Value} (h : w.ownsRow base e 1 v n xs) (hg : Blk w g 30 cs) (he : e ≠ 30) (ho : Only g w w') : w'.ownsRow base e 1 v n xs :=
  own_only h hg (fun cs fr c => by cases c; exact he rfl) ho
theorem Owned.onlyB {w w' : World} {base g : Nat} {s : Str} {C : Con} {cs : Array Value} (h : Owned w base s C) (hg : Blk w g 30 cs) (ho : Only g w w') : Owned w' base s C :=
  ⟨own_onlyB h.path hg (by decide) ho, h.pathC, own_onlyB h.closers hg (by decide) ho, h.closersC, own_onlyB h.name hg (by decide) ho, h.nameC, own_onlyB h.kept hg (by decide) ho, h.keptC⟩

/-- On the way through the model's part: the stream as it was copied (in block B1), the model's stream (in B2), the bytes. -/
structure MS (w : World) (ap : Option Addr) (zs : List Int) (s : Str) (C : Con) (base B1 B2 : Nat) (t : Str) (wx : World) : Prop where
  one : Blk wx B1 30 s.cells30
  two : Blk wx B2 30 t.cells30
  below : Below B1 w wx
  bytes : wx.ownsRow 0 5 1 (.slice ap zs.length zs.length) zs.length (bys zs)
  owned : Owned wx base s C
  ne : B1 < B2

theorem MS.call {w wx w' : World} {ap : Option Addr} {zs : List Int} {s t : Str} {C : Con} {base B1 B2 : Nat} (h : MS w ap zs s C base B1 B2 t wx) (hB : B1 ≤ w.heap.size) (hb : Below wx.heap.size wx w') : MS w ap zs s C base B1 B2 t w' :=
  ⟨h.one.below hb, h.two.below hb, h.below.trans (hb.mono (by have := h.below.size; omega)), owns_below h.bytes hb, h.owned.below hb, h.ne⟩
/-- Only the model's stream is written. -/
theorem MS.write {w wx w' : World} {ap : Option Addr} {zs : List Int} {s t t' : Str} {C : Con} {base B1 B2 : Nat} (h : MS w ap zs s C base B1 B2 t wx) (hB : B1 ≤ w.heap.size) (ho : Only B2 wx w') (ht : Blk w' B2 30 t'.cells30) : MS w ap zs s C base B1 B2 t' w' :=
  ⟨h.one.only ho (by have := h.ne; omega), ht, h.below.trans (ho.below (by have := h.ne; omega) (by have := h.below.size; omega)), own_onlyB h.bytes h.two (by decide) ho, h.owned.onlyB h.two ho, h.ne⟩
theorem MS.fin {w wx w' : World} {ap : Option Addr} {zs : List Int} {s t t' : Str} {C : Con} {base B1 B2 : Nat} {k : Sl} {kc : List Int} (h : MS w ap zs s C base B1 B2 t wx) (hB : B1 ≤ w.heap.size) (hk : wx.ownsRow 0 5 1 k.v k.n (bys kc)) (ho : Only B2 wx w') (ht : Blk w' B2 30 t'.cells30) :
    MS w ap zs s C base B1 B2 t' w' ∧ w'.ownsRow 0 5 1 k.v k.n (bys kc) := ⟨h.write hB ho ht, own_onlyB hk h.two (by decide) ho⟩

theorem MS.strm {w wx w' : World} {ap : Option Addr} {zs : List Int} {s t x : Str} {C : Con} {base B1 B2 g : Nat} (h : MS w ap zs s C base B1 B2 t wx) (hB : B1 ≤ w.heap.size) (hg : Strm wx g x) (hgB : B1 ≤ g) (ho : Only g wx w') : MS w ap zs s C base B1 B2 t w' :=
  ⟨h.one.only ho (h.one.ne_strm hg (by decide)), h.two.only ho (h.two.ne_strm hg (by decide)), h.below.trans (ho.below hgB (by have := h.below.size; omega)), own_strm h.bytes hg (by decide) ho, h.owned.only hg ho, h.ne⟩

/-- What jsb1Matches is told at the end. -/
def Fits (g B2 : Nat) (bad : Bool) (s : Str) (k : Sl) (wx : World) : Prop :=
  ∃ (V : Str) (C' : Con), Strm wx g V ∧ V.broken = bad ∧ Blk wx B2 30 ({ V with path := s.path, closers := s.closers, name := s.name, kept := k } : Str).cells30 ∧ Reads wx V C' ∧
    Reads wx { V with path := s.path, closers := s.closers, name := s.name, kept := k } C'

theorem end_link {w wx : World} {ap : Option Addr} {zs ks : List Int} {s1 s1' s2 : Str} {C : Con} {base base2 B1 B2 E phn g : Nat} {ended bad : Bool} {k k' : Sl} {p c n kk : Option Addr}
    (hs1' : s1' = { s1 with number := ((phn : Nat) : Int) }) (hs2 : s1.with4 p c n kk = s2) (hms : MS w ap zs s1 C base B1 B2 (fin ended s1' ks zs E k) wx) (hk : wx.ownsRow 0 5 1 k.v k.n (bys (finC ended s1' ks zs E)))
    (ho2 : Owned wx base2 s2 C) (hst : Strm wx g { fin ended { s2 with number := ((phn : Nat) : Int) } ks zs E k' with broken := bad }) (hk' : wx.ownsRow 0 5 1 k'.v k'.n (bys (finC ended { s2 with number := ((phn : Nat) : Int) } ks zs E))) :
    Fits g B2 bad s1 k wx := by
  subst hs1'
  subst hs2
  have e1 := fin_cells ended bad { s1 with number := ((phn : Nat) : Int) } p c n kk ks zs E k k'
  have e2 := finC_with ended { s1 with number := ((phn : Nat) : Int) } p c n kk ks zs E
  refine ⟨_, { C with kept := finC ended { s1 with number := ((phn : Nat) : Int) } ks zs E }, hst, rfl, ?_, ?_, ?_⟩
  · have h := hms.two
    rw [e1] at h
    exact h
  · have h := reads_fin ho2 hk' ended bad ks zs E ((phn : Nat) : Int)
    have e3 : finC ended { s1.with4 p c n kk with number := ((phn : Nat) : Int) } ks zs E = finC ended { s1 with number := ((phn : Nat) : Int) } ks zs E := e2
    rw [e3] at h
    exact h
  · exact reads_w hms.owned (rd_of_owns hk) (by have := owns_len hk; rwa [bys_length] at this)
end Go.Proofs.Qxb6602575a
