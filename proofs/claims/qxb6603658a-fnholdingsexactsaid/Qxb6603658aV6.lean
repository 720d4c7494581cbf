import Derived.Test.Qxb6603658aV1
namespace Go.Proofs.Qxb6603658a
open Go.RowKit

theorem addr_plain (b o j : Nat) : (⟨b, o, none⟩ : Addr).add j = ⟨b, o + j, none⟩ := by unfold Addr.add; split <;> simp_all

/-- What the walk is told of a slice of strings that came in. -/
def IsStrs (w : World) (a : Option Addr) (len cap : Nat) (ss : List ByteArray) : Prop :=
  (a = none ∧ len = 0 ∧ cap = 0 ∧ ss = []) ∨
  ∃ x, a = some x ∧ len ≤ cap ∧ cap ≤ maxLen ∧ ss.length = cap ∧ (∀ i, i < ss.length → w.cell? (x.add i) = some (.string (ss.getD i ByteArray.empty))) ∧ ∀ s ∈ ss, s.size ≤ maxLen

theorem strs_came {w : World} {a : Option Addr} {len cap : Nat} {ss : List ByteArray} (h : IsStrs w a len cap ss) :
    RdS w a (ss.take len) ∧ (ss.take len).length = len ∧ (a = none → cap = 0) ∧ ∀ k, k < (ss.take len).length → (sat (ss.take len) k).size ≤ maxLen := by
  rcases h with ⟨rfl, rfl, rfl, rfl⟩ | ⟨x, rfl, h1, h2, h3, h4, h5⟩
  · exact ⟨rds_nil _ _, rfl, fun _ => rfl, fun k hk => absurd hk (Nat.not_lt_zero k)⟩
  · have hl : (ss.take len).length = len := by simp; omega
    refine ⟨?_, hl, (fun h => by cases h), ?_⟩
    · by_cases h0 : len = 0
      · subst h0; exact rds_nil _ _
      · obtain ⟨b, off, spot⟩ := x
        have hs : spot = none := by simpa [Addr.add] using World.cell?_spot (h4 0 (by omega))
        subst hs
        refine ⟨by omega, .inr ⟨b, off, rfl, fun i hi => ?_⟩⟩
        have h6 := h4 i (by omega)
        rw [addr_plain] at h6
        rw [h6]
        have e : sat (ss.take len) i = ss.getD i ByteArray.empty := by
          unfold sat
          rw [List.getElem?_take_of_lt (by omega)]
          rfl
        rw [e]
    · intro k hk
      have hk' : k < ss.length := by omega
      have e : sat (ss.take len) k = ss[k] := by
        unfold sat
        rw [List.getElem?_take_of_lt (by omega), List.getElem?_eq_getElem hk']
        rfl
      rw [e]
      exact h5 _ (List.getElem_mem hk')
end Go.Proofs.Qxb6603658a
