/-
  'saga.withRoom' (24), 'saga.ZZWithRoom' (17).
-/
import Derived.Test.Qxb6600340aRoom
import Derived.Deep.DeepCutAuto
import Derived.Deep.RegionWith
import Derived.BigRegion
import Derived.Laws.CopyOwn
namespace Go.Proofs.Qxb6600340a
open Go.RowKit

theorem copy_keys {w : World} {g b m c c' : Nat} (ty : TypeId) {L Z : List (Int × Int × Nat)} (hb : RowK w b L) (hg : RowK w g Z) (hL : m ≤ L.length) (hZ : m ≤ Z.length) :
    ∃ w', (Builtin.copy_ #[31, 31] ty #[.slice (some ⟨g, 0, none⟩) m c, .slice (some ⟨b, 0, none⟩) m c']).run Try.prog w = .ok (goInt m) w' ∧ RowK w' g (L.take m ++ Z.drop m) ∧ ∀ B, B ≤ g → Below B w w' := by
  obtain ⟨i0, hi, hz0, hz1, hz2⟩ := info_parts Try.info38
  have hlen : (keyCells (L.take m)).length = m * 3 := by rw [keyCells_length, List.length_take]; omega
  have hsrc : ∀ j v, (keyCells (L.take m))[j]? = some v → w.cell? ((⟨b, 0, none⟩ : Addr).add j) = some v := by
    intro j v hv
    rw [WideShapes.add_plain, Nat.zero_add, cell_of_row w b _ _ _ _ hb, List.getElem?_toArray]
    rw [← keyCells_take, List.getElem?_take] at hv
    split at hv
    · exact hv
    · cases hv
  have hl := run_loadCells_list (P := Try.prog) w ⟨b, 0, none⟩ (keyCells (L.take m)) hsrc
  have hst := run_storeCells_at Try.prog g 0 38 (keyCells (L.take m)) 0 (keyCells Z).toArray w hg (by simp [hlen, keyCells_length]; omega) (keyCells_one _)
  have e : (List.take (0 + 0) (keyCells Z).toArray.toList ++ keyCells (L.take m) ++ List.drop (0 + 0 + (keyCells (L.take m)).length) (keyCells Z).toArray.toList) = keyCells (L.take m ++ Z.drop m) := by
    rw [hlen, keyCells_append, ← keyCells_drop]; simp
  rw [e] at hst
  rw [hlen] at hl
  refine ⟨w.setRow g (keyCells (L.take m ++ Z.drop m)).toArray, ?_, ?_, fun B hB => below_setRow (Below.refl _ _) hB _⟩
  · simp [Builtin.copy_, run_underlying Try.underlying31, Builtin.lenOf, Builtin.firstCells, sizeOf, typeInfo, hi, hz1, hl, hst]
  · exact setRow_heap w g _ _ 38 _ hg

theorem withRoom_has (bk m c : Nat) (n : Int) (hn : n ≤ c) (w : World) :
    Calls Try.prog 24 #[.slice (some ⟨bk, 0, none⟩) m c, .int .i64 n] w fun e w' => e = .returned (.slice (some ⟨bk, 0, none⟩) m c) ∧ w' = w := by
  go_enter Try.func24, Try.ntmps24
  go_wp2
  go_ret
  exact ⟨rfl, rfl⟩

theorem withRoom_grows (bk m c n : Nat) (L : List (Int × Int × Nat)) (hn : c < n) (hn2 : n ≤ 65536) (hmc : m ≤ c) (hL : L.length = c) (w : World) (hr : RowK w bk L) :
    Calls Try.prog 24 #[.slice (some ⟨bk, 0, none⟩) m c, .int .i64 n] w fun e w' => (e = .returned (.slice (some ⟨w.heap.size, 0, none⟩) m (2 * n)) ∧ RowK w' w.heap.size (L.take m ++ (List.replicate (2 * n) key0).drop m)) ∧ Below w.heap.size w w' := by
  have hmk : ∀ w : World, (Instr.makeSlice 31 (.int .i64 (m : Int)) (.int .i64 (2 * (n : Int)))).run Try.prog w = .ok (.slice (some ⟨w.heap.size, 0, none⟩) m (2 * n)) (w.alloc (.cells (keyCells (List.replicate (2 * n) key0)).toArray 38)) := fun w => make_keys m (2 * n) (by omega) (by omega) w
  obtain ⟨w2, hcp, hr2, hb2⟩ := copy_keys (w := w.alloc (.cells (keyCells (List.replicate (2 * n) key0)).toArray 38)) (g := w.heap.size) (b := bk) (m := m) (c := 2 * n) (c' := c) 3 (hr.alloc _) (RowK.made _ _) (by omega) (by simp; omega)
  have HB : Hid (Below w.heap.size w w2) := ((Below.refl _ _).alloc (Nat.le_refl _) _).trans (hb2 _ (Nat.le_refl _))
  clear hb2 hL
  go_enter Try.func24, Try.ntmps24
  go_wp2
  go_ret
  exact ⟨⟨rfl, hr2⟩, HB.out⟩

theorem zzWithRoom_has (bk m c : Nat) (n : Int) (hn : n ≤ c) (w : World) :
    Calls Try.prog 17 #[.slice (some ⟨bk, 0, none⟩) m c, .int .i64 n] w fun e w' => e = .returned (.slice (some ⟨bk, 0, none⟩) m c) ∧ w' = w := by
  go_enter Try.func17, Try.ntmps17
  go_wp2_with fail
  refine (withRoom_has bk m c n hn w).mono ?_
  rintro e w' ⟨rfl, rfl⟩
  go_wp2
  go_ret
  exact ⟨rfl, rfl⟩

theorem zzWithRoom_grows (bk m c n : Nat) (L : List (Int × Int × Nat)) (hn : c < n) (hn2 : n ≤ 65536) (hmc : m ≤ c) (hL : L.length = c) (w : World) (hr : RowK w bk L) :
    Calls Try.prog 17 #[.slice (some ⟨bk, 0, none⟩) m c, .int .i64 n] w fun e w' => (e = .returned (.slice (some ⟨w.heap.size, 0, none⟩) m (2 * n)) ∧ RowK w' w.heap.size (L.take m ++ (List.replicate (2 * n) key0).drop m)) ∧ Below w.heap.size w w' := by
  have HL : Hid (L.length = c) := hL
  clear hL
  go_enter Try.func17, Try.ntmps17
  go_wp2_with fail
  refine (withRoom_grows bk m c n L hn hn2 hmc HL.out w hr).mono ?_
  rintro e w' ⟨⟨rfl, hr2⟩, hb⟩
  go_wp2
  go_ret
  exact ⟨⟨rfl, hr2⟩, hb⟩

theorem keysAre_grown {L : List (Int × Int × Nat)} {N D : List Int} {I : List Nat} {m n : Nat} (h : KeysAre L N D I m) : KeysAre (L.take m ++ (List.replicate n key0).drop m) N D I m := by
  refine ⟨by have := h.1; simp; omega, fun k hk => ?_⟩
  rw [← h.2 k hk, List.getD_eq_getElem?_getD, List.getD_eq_getElem?_getD, List.getElem?_append_left (by have := h.1; simp; omega), List.getElem?_take, if_pos hk]

end Go.Proofs.Qxb6600340a
