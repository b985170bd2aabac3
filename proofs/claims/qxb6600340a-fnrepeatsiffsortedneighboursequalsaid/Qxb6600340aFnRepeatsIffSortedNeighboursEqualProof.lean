/-
  'Rows.FnRepeatsIffSortedNeighboursEqualSaid', proved: the frame is the guide's template at this function; the walk is Qxb6600340aWalk3's.
-/
import Derived.Test.Qxb6600340aRows
import Derived.Test.Qxb6600340aWalk3
import Derived.WalkKit
import Derived.ProofKit
import Derived.OpenShut
import Derived.ShutString
import Derived.ChangeOld
import Derived.Below
namespace Go.Proofs.Qxb6600340a.fnRepeatsIffSortedNeighboursEqual
open Go.ChangeShapes Go.WideShapes Go.ChangeAt Go.RowKit
open Go.ChangeMaps (open_string shut_string)
set_option linter.unusedVariables false

theorem own : ownKnob Try.prog.godebug = none := by kernel_rfl
theorem laidOut : laidOutB Try.prog = true := by kernel_rfl

/-- WHAT THE WALK IS TOLD OF A SLICE OF INTEGERS THAT CAME IN: it is nil; or it leads to a row of 'cap' cells, the numbers 'zs' (the first 'len' are its elements, the rest its spare room), each fitting its kind. -/
def IsRow (k : IntKind) (w : World) (a : Option Addr) (len cap : Nat) (zs : List Int) : Prop :=
  (a = none ∧ len = 0 ∧ cap = 0 ∧ zs = []) ∨
  ∃ x, a = some x ∧ len ≤ cap ∧ cap ≤ maxLen ∧ zs.length = cap ∧ (∀ i, i < zs.length → w.cell? (x.add i) = some (.int k (zs.getD i 0))) ∧ ∀ n ∈ zs, (Lit.int k n).wf = true

/-- The numbers of the elements, as naturals. -/
theorem row_slu {w : World} {a : Option Addr} {len cap : Nat} {zs : List Int} (h : IsRow .u64 w a len cap zs) :
    ∃ ns : List Nat, ns.length = len ∧ (∀ z ∈ ns, z < 18446744073709551616) ∧ SlU w a ns ∧ (a = none → len = 0 ∧ cap = 0) := by
  rcases h with ⟨rfl, rfl, rfl, rfl⟩ | ⟨x, rfl, hl, hm, hz, hc, hwf⟩
  · exact ⟨[], rfl, fun z hz => absurd hz (by simp), fun h => absurd h (by simp), fun _ => ⟨rfl, rfl⟩⟩
  · refine ⟨(zs.take len).map Int.toNat, by simp; omega, ?_, ?_, fun h => by cases h⟩
    · intro z hz
      simp only [List.mem_map] at hz
      obtain ⟨y, hy, rfl⟩ := hz
      have := bounds_u64 (hwf y (List.mem_of_mem_take hy))
      omega
    · intro hp
      simp only [List.length_map, List.length_take] at hp
      obtain ⟨b, off, spot⟩ := x
      have hspot : spot = none := by simpa [Addr.add] using World.cell?_spot (hc 0 (by omega))
      subst hspot
      have h0 := hc 0 (by omega)
      rw [add_plain] at h0
      refine ⟨b, off, rfl, block_lt_of_cell h0, fun j hj => ?_⟩
      simp only [List.length_map, List.length_take] at hj
      have hcj := hc j (by omega)
      rw [add_plain] at hcj
      rw [hcj]
      have hjz : j < zs.length := by omega
      have hb := bounds_u64 (hwf zs[j] (List.getElem_mem _))
      have e1 : zs.getD j 0 = zs[j] := by simp [List.getD_eq_getElem?_getD, hjz]
      have e2 : ((zs.take len).map Int.toNat).getD j 0 = zs[j].toNat := by
        simp [List.getD_eq_getElem?_getD, hjz, show j < len by omega]
      rw [e1, e2, Int.toNat_of_nonneg hb.1]

theorem walk (a0 : Option Addr) (len0 cap0 : Nat) (z0 : List Int) (w : World) (w0 : IsRow .u64 w a0 len0 cap0 z0) :
    Calls Try.prog 3 #[.slice a0 len0 cap0] w fun e w' => e = .returned (.bool true) ∧ Below w.heap.size w w' := by
  have hm : len0 ≤ 9223372036854775807 := by
    rcases w0 with ⟨_, rfl, _, _⟩ | ⟨x, _, hl, hm, _⟩
    · omega
    · unfold maxLen at hm; omega
  obtain ⟨ns, hn, hz, hs, hnil⟩ := row_slu w0
  clear w0
  by_cases h1 : len0 ≤ 1048576
  · by_cases h2 : len0 ≤ 131072
    · exact walk3 a0 cap0 len0 ns hn hnil h2 hz w hs
    · clear hz hs hnil hn
      go_enter Try.func3, Try.ntmps3
      go_wp2_with fail
      refine (bytes8_yes a0 len0 cap0 (by omega) _).mono ?_
      rintro e w' ⟨rfl, hw⟩
      subst hw
      go_wp2
      go_ret
      exact ⟨rfl, Below.refl _ _⟩
  · clear hz hs hnil hn
    go_enter Try.func3, Try.ntmps3
    go_wp2_with fail
    refine (bytes8_no a0 len0 cap0 (by omega) _).mono ?_
    rintro e w' ⟨rfl, hw⟩
    subst hw
    go_wp2
    go_ret
    exact ⟨rfl, Below.refl _ _⟩

/-! ### THE ROW's STEP: WRITTEN OUT: LEAVE IT -/
set_option maxRecDepth 100000 in
theorem lifted (os : Os) (started : os.Started) (H : Type) (enc : TypeId × Value → H) :
    ReturnsInHanded {} Try.checked os 3 .any (Rows.fnRepeatsIffSortedNeighboursEqualSpec.pre6 enc Try.prog Try.f3 Rows.fnRepeatsIffSortedNeighboursEqualRow.domain false) (Rows.fnRepeatsIffSortedNeighboursEqualSpec.post enc Try.prog Try.f3 false true false false) := by
  refine returnsInHanded_of_change (C := Try.checked) own started (by kernel_rfl) Try.func3
    (ChangeSpec.witness6 (enc := enc) (C := Try.checked) false ⟨#[], #[.slice none 0 0], []⟩ 8 (by kernel_rfl) (by kernel_rfl) (by kernel_rfl) (by kernel_rfl)) ?_
  intro W base args ds gs before hval0 hW hcnd _
  have hval : ∀ (j : Nat) t v, Try.f3.params[j]? = some t → args[j]? = some v → Value.okWide Try.prog W .any base t v := hval0
  have hW' := hW
  obtain ⟨p, q, hA0, hV, rfl, hfz, hnd⟩ := hW
  have hA : DataW.TrodAll enc Try.prog W 0 (fun _ => true) true Try.f3.params.toList args.toList ds p := hA0
  rw [Try.params3] at hA hval
  obtain ⟨v0, vs0, d0, ds0, p0, q0, hargs, rfl, rfl, h0, r0⟩ := trodAll_cons hA
  obtain ⟨rfl, rfl, rfl⟩ := trodAll_nil r0
  obtain rfl : args = #[v0] := by cases args; simp_all
  obtain ⟨rfl, rfl⟩ := trodVars_none hV
  obtain ⟨a0, len0, cap0, rfl⟩ := okWide_slice Try.underlying22 (hval 0 22 v0 rfl rfl)
  have k0 := h0
  have lt0 : ∀ x ∈ p0, x.block < W.heap.size := by obtain ⟨m, hm⟩ := k0; exact DataW.trod_lt m _ _ _ hm
  obtain ⟨z0, w0⟩ : ∃ zs, IsRow .u64 W a0 len0 cap0 zs := by
    obtain ⟨fuel, hf⟩ := h0
    rcases open_ints Try.underlying22 Try.underlying25 (by kernel_rfl) hf with ⟨hcs, _⟩ | ⟨x, l, c, zs, hcs, _, hl, hm, hz, _, hcell, hwz⟩
    · simp [Value.cells] at hcs
      obtain ⟨rfl, rfl, rfl⟩ := hcs
      exact ⟨[], .inl ⟨rfl, rfl, rfl, rfl⟩⟩
    · simp [Value.cells] at hcs
      obtain ⟨rfl, rfl, rfl⟩ := hcs
      exact ⟨zs, .inr ⟨_, rfl, hl, hm, by simpa using hz, hcell, hwz⟩⟩
  clear hA0 hval0
  refine (walk a0 len0 cap0 z0 W w0).mono fun e W' ⟨he, bel⟩ => ?_
  subst he
  exact ⟨_, rfl, _, _, _, [], _, [], hW', trodAll_mk1 (shut_bool Try.underlying4 _), (trodAll_cons_mk (Below.trod laidOut (by kernel_rfl) (of_decide_eq_true (by kernel_rfl)) k0 bel lt0) trodAll_mk0), rfl, bel.frame _, fun h => by cases h⟩

theorem over : Rows.fnRepeatsIffSortedNeighboursEqualRow.holds Try.pinned (OpenSpec.ofChange Rows.fnRepeatsIffSortedNeighboursEqualSpec) :=
  OpenClaim.holds_of_wide 3 Try.f3 rfl rfl rfl rfl rfl rfl rfl ⟨rfl, rfl, rfl, rfl, rfl⟩ rfl rfl rfl rfl rfl (by kernel_rfl) Try.func3 (by kernel_rfl)
    (of_decide_eq_true (by kernel_rfl)) (by unfold Func.isWrapper; first | (rw [if_pos (by decide +kernel)]; kernel_rfl) | (rw [if_neg (by decide +kernel)]; exact ⟨rfl, rfl⟩))
    (fun os started H enc _ => lifted os started H enc)

/-- ████ THE STATEMENT ████ -/
theorem proved : Rows.FnRepeatsIffSortedNeighboursEqualSaid := over
#print axioms proved
end Go.Proofs.Qxb6600340a.fnRepeatsIffSortedNeighboursEqual
