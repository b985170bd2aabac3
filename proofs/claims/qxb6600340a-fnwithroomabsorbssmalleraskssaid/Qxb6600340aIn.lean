/-
  From the given frame's view of a slice of integers that came in to the walks' views.
-/
import Derived.Test.Qxb6600340aWalk5
import Derived.WalkKit
import Derived.ProofKit
import Derived.OpenShut
namespace Go.Proofs.Qxb6600340a
open Go.ChangeShapes Go.WideShapes Go.ChangeAt Go.RowKit

/-- WHAT THE WALK IS TOLD OF A SLICE OF INTEGERS THAT CAME IN (the given frame's own words): it is nil; or it leads to a row of 'cap' cells, the numbers 'zs' (the first 'len' are its elements, the rest its spare room), each fitting its kind. -/
def IsRow (k : IntKind) (w : World) (a : Option Addr) (len cap : Nat) (zs : List Int) : Prop :=
  (a = none ∧ len = 0 ∧ cap = 0 ∧ zs = []) ∨
  ∃ x, a = some x ∧ len ≤ cap ∧ cap ≤ maxLen ∧ zs.length = cap ∧ (∀ i, i < zs.length → w.cell? (x.add i) = some (.int k (zs.getD i 0))) ∧ ∀ n ∈ zs, (Lit.int k n).wf = true

theorem IsRow.le {k : IntKind} {w : World} {a : Option Addr} {len cap : Nat} {zs : List Int} (h : IsRow k w a len cap zs) : len ≤ 9223372036854775807 := by
  rcases h with ⟨_, rfl, _, _⟩ | ⟨x, _, hl, hm, _⟩
  · omega
  · unfold maxLen at hm; omega

/-- The numbers of the elements, as naturals. -/
theorem row_slu {w : World} {a : Option Addr} {len cap : Nat} {zs : List Int} (h : IsRow .u64 w a len cap zs) :
    ∃ ns : List Nat, ns.length = len ∧ (∀ z ∈ ns, z < 18446744073709551616) ∧ SlU w a ns ∧ (a = none → len = 0 ∧ cap = 0) := by
  rcases h with ⟨rfl, rfl, rfl, rfl⟩ | ⟨x, rfl, hl, hm, hz, hc, hwf⟩
  · exact ⟨[], rfl, fun z hz => absurd hz (by simp), fun h => absurd h (by simp), fun _ => ⟨rfl, rfl⟩⟩
  · refine ⟨(zs.take len).map Int.toNat, by simp; omega, ?_, ?_, fun h => by cases h⟩
    · intro z hz
      simp only [List.mem_map] at hz
      obtain ⟨y, hy, rfl⟩ := hz
      have := bounds_u64 (hwf y (List.mem_of_mem_take hy))
      omega
    · intro hp
      simp only [List.length_map, List.length_take] at hp
      obtain ⟨b, off, spot⟩ := x
      have hspot : spot = none := by simpa [Addr.add] using World.cell?_spot (hc 0 (by omega))
      subst hspot
      have h0 := hc 0 (by omega)
      rw [add_plain] at h0
      refine ⟨b, off, rfl, block_lt_of_cell h0, fun j hj => ?_⟩
      simp only [List.length_map, List.length_take] at hj
      have hcj := hc j (by omega)
      rw [add_plain] at hcj
      rw [hcj]
      have hjz : j < zs.length := by omega
      have hb := bounds_u64 (hwf zs[j] (List.getElem_mem _))
      have e1 : zs.getD j 0 = zs[j] := by simp [List.getD_eq_getElem?_getD, hjz]
      have e2 : ((zs.take len).map Int.toNat).getD j 0 = zs[j].toNat := by
        simp [List.getD_eq_getElem?_getD, hjz, show j < len by omega]
      rw [e1, e2, Int.toNat_of_nonneg hb.1]

/-- The same for int32. -/
theorem row_sli {w : World} {a : Option Addr} {len cap : Nat} {zs : List Int} (h : IsRow .i32 w a len cap zs) :
    ∃ ns : List Int, ns.length = len ∧ SlI w a ns ∧ (a = none → len = 0 ∧ cap = 0) := by
  rcases h with ⟨rfl, rfl, rfl, rfl⟩ | ⟨x, rfl, hl, hm, hz, hc, hwf⟩
  · exact ⟨[], rfl, fun h => absurd h (by simp), fun _ => ⟨rfl, rfl⟩⟩
  · refine ⟨zs.take len, by simp; omega, ?_, fun h => by cases h⟩
    intro hp
    simp only [List.length_take] at hp
    obtain ⟨b, off, spot⟩ := x
    have hspot : spot = none := by simpa [Addr.add] using World.cell?_spot (hc 0 (by omega))
    subst hspot
    have h0 := hc 0 (by omega)
    rw [add_plain] at h0
    refine ⟨b, off, rfl, block_lt_of_cell h0, fun j hj => ?_⟩
    simp only [List.length_take] at hj
    have hcj := hc j (by omega)
    rw [add_plain] at hcj
    rw [hcj]
    congr 2
    simp [List.getD_eq_getElem?_getD, show j < len by omega]

theorem three_of {w : World} {a0 a1 a2 : Option Addr} {l0 c0 l1 c1 l2 c2 : Nat} {z0 z1 z2 : List Int} (h0 : IsRow .i32 w a0 l0 c0 z0) (h1 : IsRow .i32 w a1 l1 c1 z1) (h2 : IsRow .u64 w a2 l2 c2 z2) :
    ∃ N D I, Three w a0 a1 a2 l0 c0 l1 c1 l2 c2 N D I := by
  obtain ⟨N, n0, s0, q0⟩ := row_sli h0
  obtain ⟨D, n1, s1, q1⟩ := row_sli h1
  obtain ⟨I, n2, _, s2, q2⟩ := row_slu h2
  exact ⟨N, D, I, n0, n1, n2, q0, q1, q2, s0, s1, s2⟩

end Go.Proofs.Qxb6600340a
