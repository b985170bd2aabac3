/-
  From the reading of a slice of strings that came in to the walks' view of it.
-/
import Derived.Test.Qxb6600397aList
import Derived.ProofKit
import Derived.OpenShut
import Derived.SliceStrings
namespace Go.Proofs.Qxb6600397a
open Go.ChangeShapes Go.WideShapes Go.ChangeAt Go.RowKit

/-- A slice of strings that came in: nil; or it leads to a row of 'cap' cells, the strings ss (the first 'len' are its elements). -/
def IsStrs (w : World) (a : Option Addr) (len cap : Nat) (ss : List ByteArray) : Prop :=
  (a = none ∧ len = 0 ∧ cap = 0) ∨
  ∃ x, a = some x ∧ len ≤ cap ∧ cap ≤ maxLen ∧ ss.length = cap ∧ (∀ i, i < ss.length → w.cell? (x.add i) = some (.string (ss.getD i ByteArray.empty))) ∧ ∀ s ∈ ss, s.size ≤ maxLen

theorem strs_in {w : World} {a : Option Addr} {len cap : Nat} {ss : List ByteArray} (h : IsStrs w a len cap ss) :
    (a = none ∧ len = 0 ∧ cap = 0) ∨
    ∃ x, a = some x ∧ len ≤ 9223372036854775807 ∧ ∃ ls : List (List UInt8), ls.length = len ∧ (∀ s ∈ ls, s.length ≤ 9223372036854775807) ∧ SlS w (some x) ls := by
  rcases h with h | ⟨x, rfl, hl, hm, hz, hc, hwf⟩
  · exact Or.inl h
  · refine Or.inr ⟨x, rfl, by unfold maxLen at hm; omega, (ss.take len).map (fun s => s.data.toList), by simp; omega, ?_, ?_⟩
    · intro s hs
      simp only [List.mem_map] at hs
      obtain ⟨y, hy, rfl⟩ := hs
      have h1 := hwf y (List.mem_of_mem_take hy)
      unfold maxLen at h1
      simpa using h1
    · intro hp
      simp only [List.length_map, List.length_take] at hp
      obtain ⟨b, off, spot⟩ := x
      have hspot : spot = none := by simpa [Addr.add] using World.cell?_spot (hc 0 (by omega))
      subst hspot
      have h0 := hc 0 (by omega)
      rw [add_plain] at h0
      refine ⟨b, off, rfl, block_lt_of_cell h0, fun j hj => ?_⟩
      simp only [List.length_map, List.length_take] at hj
      have hcj := hc j (by omega)
      rw [add_plain] at hcj
      rw [hcj]
      have hjz : j < ss.length := by omega
      have e1 : ss.getD j ByteArray.empty = ss[j] := by simp [List.getD_eq_getElem?_getD, hjz]
      have e2 : ((ss.take len).map (fun s => s.data.toList)).getD j [] = ss[j].data.toList := by
        simp [List.getD_eq_getElem?_getD, hjz, show j < len by omega]
      rw [e1, e2]

end Go.Proofs.Qxb6600397a
