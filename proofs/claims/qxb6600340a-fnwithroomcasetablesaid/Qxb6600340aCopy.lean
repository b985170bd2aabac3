/-
  'sagaB1CopyU64' (function 9): a copy in new memory; nil stays nil.
-/
import Derived.Test.Qxb6600340aMem
import Derived.Test.Qxb6600340aSort
namespace Go.Proofs.Qxb6600340a
open Go.RowKit Go.Maps

/-- 's == nil' on a slice. -/
theorem eql_nil {P : Program} (w : World) {t e : TypeId} (a : Option Addr) (n c : Nat) (ht : P.underlying t = some (.slice e)) :
    (binOp .eql t (.slice a n c) (.slice none 0 0)).run P w = .ok (.bool a.isNone) w := by
  have h : ∀ d : Nat, (Op.equalIn (d + 1) t (.slice a n c) (.slice none 0 0)).run P w = .ok a.isNone w := fun d => by
    cases a <;> simp [Op.equalIn, run_underlying ht]
  simp only [binOp]
  simp [Op.equal, Op.maxDepth, h 9999]

theorem copyu_nil (w : World) : Calls Try.prog 9 #[.slice none 0 0] w fun e w' => e = .returned (.slice none 0 0) ∧ w' = w := by
  have hq : ∀ (w : World) (a : Option Addr) (n c : Nat), (binOp .eql 22 (.slice a n c) (.slice none 0 0)).run Try.prog w = .ok (.bool a.isNone) w := fun w a n c => eql_nil w a n c Try.underlying22
  go_enter Try.func9, Try.ntmps9
  go_wp2
  go_ret
  exact ⟨rfl, rfl⟩

set_option maxHeartbeats 400000 in
theorem copyu_some (x : Addr) (cap n : Nat) (zs : List Nat) (hn : zs.length = n) (hl : n ≤ 200000) (w : World) (hs : SlU w (some x) zs) :
    Calls Try.prog 9 #[.slice (some x) n cap] w fun e w' => e = .returned (.slice (some ⟨w.heap.size, 0, none⟩) n n) ∧ RowU w' w.heap.size zs ∧ Below w.heap.size w w' := by
  have Hlen : Hid (zs.length = n) := hn
  clear hn
  have hmk : ∀ w : World, (Instr.makeSlice 22 (.int .i64 ((n : Nat) : Int)) (.int .i64 ((n : Nat) : Int))).run Try.prog w = .ok (.slice (some ⟨w.heap.size, 0, none⟩) n n) (w.alloc (.cells (u64s (List.replicate n 0)) 25)) := fun w => make_u64 n (by omega) .i64 w
  have hq : ∀ (w : World) (a : Option Addr) (n c : Nat), (binOp .eql 22 (.slice a n c) (.slice none 0 0)).run Try.prog w = .ok (.bool a.isNone) w := fun w a n c => eql_nil w a n c Try.underlying22
  go_enter Try.func9, Try.ntmps9
  go_wp2
  go_loopw [4] (fun i wr => ∃ (k : Nat) (L : List Nat), k ≤ n ∧ i = .int .i64 k ∧ L.length = n ∧ RowU wr w.heap.size L ∧ L.take k = zs.take k ∧ Below w.heap.size w wr) (fun i _ => n - (intOf i).toNat)
  case atStart => exact ⟨0, _, by omega, rfl, by simp, RowU.made _ _, by simp, (Below.refl _ _).alloc (Nat.le_refl _) _⟩
  case round =>
    obtain ⟨k, L, hk, rfl, hL, hrow, htk, hB⟩ := hrel
    have HL : Hid (L.length = n) := hL
    have Htk : Hid (L.take k = zs.take k) := htk
    clear hL htk
    by_cases hlt : k < n
    · obtain ⟨b, off, he, hb, hc⟩ := hs (by rw [Hlen.out]; omega)
      obtain rfl : x = ⟨b, off, none⟩ := by simpa using he
      clear he
      obtain ⟨x, hx⟩ : ∃ x, x = zs.getD k 0 := ⟨_, rfl⟩
      have hcx : wr.cell? ⟨b, off + k, none⟩ = some (.int .u64 (x : Nat)) := by
        rw [hx]; exact (hB.cell (by exact hb)).trans (hc k (by rw [Hlen.out]; exact hlt))
      have Hx : Hid (x = zs.getD k 0) := hx
      have hc0 := hrow.cell (j := k) (by rw [HL.out]; omega)
      have hf0 := hrow.free k
      clear hx hc
      go_wp2
      go_roundw
      case rel =>
        refine ⟨k + 1, L.set k x, by omega, by go_num, by rw [List.length_set]; exact HL.out, hrow.set _ _, ?_, hB.setCell (Nat.le_refl _) _⟩
        rw [take_set_snoc' _ _ _ (by rw [HL.out]; omega), Htk.out, take_snoc _ _ (by rw [Hlen.out]; omega), Hx.out]
      case measure => simp [intOf]; omega
    · have HA : Hid (L = zs) := by
        have := Htk.out
        rw [List.take_of_length_le (by rw [HL.out]; omega), List.take_of_length_le (by rw [Hlen.out]; omega)] at this
        exact this
      go_wp2
      go_ret
      exact ⟨rfl, by rw [← HA.out]; exact hrow, hB⟩

/-- The copy, nil or not. -/
theorem copyu_any (a : Option Addr) (cap n : Nat) (zs : List Nat) (hn : zs.length = n) (hnil : a = none → n = 0 ∧ cap = 0) (hl : n ≤ 200000) (w : World) (hs : SlU w a zs) :
    Calls Try.prog 9 #[.slice a n cap] w fun e w' => (∃ a' c', e = .returned (.slice a' n c') ∧ SlU w' a' zs) ∧ Below w.heap.size w w' := by
  cases a with
  | none =>
    obtain ⟨rfl, rfl⟩ := hnil rfl
    refine (copyu_nil w).mono ?_
    rintro e w' ⟨rfl, rfl⟩
    exact ⟨⟨none, 0, rfl, hs⟩, Below.refl _ _⟩
  | some x =>
    refine (copyu_some x cap n zs hn hl w hs).mono ?_
    rintro e w' ⟨rfl, hr, hb⟩
    exact ⟨⟨_, _, rfl, hr.slu⟩, hb⟩


end Go.Proofs.Qxb6600340a
