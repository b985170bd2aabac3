/-
  The seat's memory words: a row of uint64 in a block of the call's own; a slice of uint64; the set 'seen' of 'repeats'.
-/
import Derived.Test.Qxb6600340aRows
import Derived.Test.Qxb6600340aPlain
import Derived.WalkKit
import Derived.WalkSmall
import Derived.Maps.OwnSet
namespace Go.Proofs.Qxb6600340a
open Go.RowKit Go.Maps

theorem Try.info25 : (Try.prog.info? 25).map (fun i => (i.zero, i.size, i.bytes)) = some (some (.int .u64 0), 1, 8) := by kernel_rfl

/-- The cells of a row of uint64. -/
def u64s (zs : List Nat) : Array Value := (zs.map (fun (n : Nat) => Value.int .u64 (n : Int))).toArray

/-- Block b of w is the row zs, all of it free to be written. -/
def RowU (w : World) (b : Nat) (zs : List Nat) : Prop := w.heap[b]? = some (.cells (u64s zs) 25 (0, 0))

/-- The slice at 'a' shows zs (of a slice of no element nothing is said). -/
def SlU (w : World) (a : Option Addr) (zs : List Nat) : Prop :=
  0 < zs.length → ∃ b off, a = some ⟨b, off, none⟩ ∧ b < w.heap.size ∧ ∀ j, j < zs.length → w.cell? ⟨b, off + j, none⟩ = some (.int .u64 (zs.getD j 0 : Nat))

theorem u64s_at (zs : List Nat) (j : Nat) (h : j < zs.length) : (u64s zs)[j]? = some (.int .u64 (zs.getD j 0 : Nat)) := by
  simp [u64s, List.getD_eq_getElem?_getD, h]

theorem u64s_set (zs : List Nat) (j x : Nat) : (u64s zs).setIfInBounds j (.int .u64 (x : Int)) = u64s (zs.set j x) := by
  apply Array.toList_inj.1
  simp [u64s, List.map_set]

theorem made_u64 (n : Nat) : madeCells #[Value.int .u64 0] n = u64s (List.replicate n 0) := by
  apply Array.toList_inj.1
  rw [toList_madeCells_one]
  simp [u64s]

theorem make_u64 (n : Nat) (hn : n ≤ 1000000) (k : IntKind) (w : World) :
    (Instr.makeSlice 22 (.int k n) (.int k n)).run Try.prog w = .ok (.slice (some ⟨w.heap.size, 0, none⟩) n n) (w.alloc (.cells (u64s (List.replicate n 0)) 25)) := by
  obtain ⟨i0, hi, hz0, hz1, hz2⟩ := info_parts Try.info25
  have h := run_make (P := Try.prog) w 22 25 i0 _ Try.underlying22 hi hz0 k k n n (by omega) (by omega) (by rw [hz2]; omega) (by omega)
  rw [h]
  simp [hz1, Value.cells, made_u64]

theorem RowU.cell {w : World} {b : Nat} {zs : List Nat} (h : RowU w b zs) {j : Nat} (hj : j < zs.length) : w.cell? ⟨b, j, none⟩ = some (.int .u64 (zs.getD j 0 : Nat)) := by
  rw [cell_of_row w b j _ _ _ h, u64s_at zs j hj]
theorem RowU.free {w : World} {b : Nat} {zs : List Nat} (h : RowU w b zs) (j : Nat) : w.frozen? ⟨b, j, none⟩ = false := frozen_of_row w b j _ _ h
theorem RowU.lt {w : World} {b : Nat} {zs : List Nat} (h : RowU w b zs) : b < w.heap.size := (Array.getElem?_eq_some_iff.1 h).1
theorem RowU.set {w : World} {b : Nat} {zs : List Nat} (h : RowU w b zs) (j x : Nat) : RowU (w.setCell ⟨b, j, none⟩ (.int .u64 (x : Int))) b (zs.set j x) := by
  have := heap_setCell_same w b j _ _ (.int .u64 (x : Int)) h
  unfold RowU
  rw [this, ← u64s_set]
theorem RowU.other {w : World} {b : Nat} {zs : List Nat} (h : RowU w b zs) {a : Addr} (ha : b ≠ a.block) (v : Value) : RowU (w.setCell a v) b zs := by
  unfold RowU
  rw [heap_setCell_other w a b v ha]; exact h
theorem RowU.alloc {w : World} {b : Nat} {zs : List Nat} (h : RowU w b zs) (o : Obj) : RowU (w.alloc o) b zs := by
  unfold RowU
  rw [Below.heap_alloc w o b h.lt]; exact h
theorem RowU.drew {w : World} {b : Nat} {zs : List Nat} (h : RowU w b zs) : RowU w.drew b zs := h
theorem RowU.made (w : World) (zs : List Nat) : RowU (w.alloc (.cells (u64s zs) 25)) w.heap.size zs := heap_alloc_new w _
theorem RowU.kept {w w' : World} {b : Nat} {zs : List Nat} {row : Option Nat} (h : RowU w b zs) (hg : w.grownBy w' row) (hne : some b ≠ row) : RowU w' b zs := (hg.block b h.lt hne).trans h
theorem RowU.below {w w' : World} {b B : Nat} {zs : List Nat} (h : RowU w b zs) (hb : Below B w w') (hB : b < B) : RowU w' b zs := (hb.block b hB).trans h
/-- A row shows itself, or any first part of itself. -/
theorem RowU.slu {w : World} {b : Nat} {zs : List Nat} (h : RowU w b zs) : SlU w (some ⟨b, 0, none⟩) zs := fun _ =>
  ⟨b, 0, rfl, h.lt, fun j hj => by rw [Nat.zero_add]; exact h.cell hj⟩
theorem SlU.take {w : World} {a : Option Addr} {zs : List Nat} (h : SlU w a zs) (n : Nat) : SlU w a (zs.take n) := by
  intro hp
  rw [List.length_take] at hp
  obtain ⟨b, off, e, hb, hc⟩ := h (by omega)
  refine ⟨b, off, e, hb, fun j hj => ?_⟩
  rw [List.length_take] at hj
  rw [hc j (by omega)]
  simp [List.getD_eq_getElem?_getD, show j < n by omega]
theorem SlU.below {w w' : World} {B : Nat} {a : Option Addr} {zs : List Nat} (h : SlU w a zs) (hb : Below B w w') (hB : w.heap.size ≤ B) : SlU w' a zs := by
  intro hp
  obtain ⟨b, off, e, hlt, hc⟩ := h hp
  have := hb.size
  exact ⟨b, off, e, by omega, fun j hj => (hb.cell (p := ⟨b, off + j, none⟩) (by show b < B; omega)).trans (hc j hj)⟩

/-! ### the set 'seen' -/
theorem law25 : Keyed Try.prog 25 := int_keyed Try.underlying25
theorem zero4 (w : World) : (zeroValue 4).run Try.prog w = .ok (.bool false) w := by kernel_rfl

theorem wf_u64 {v : Nat} (h : v < 18446744073709551616) : (Lit.int .u64 (v : Int)).wf = true := WalkArith.wf_u64 (by omega)

/-- Block bs is a map[uint64]bool of at most n entries that answers f. -/
def SeenIs (w : World) (bs n : Nat) (f : Nat → Bool) : Prop :=
  ∃ D : DataW Unit, w.ownsMap Try.prog 25 (plainElem Try.prog 4) bs n D ∧ ∀ v : Nat, v < 18446744073709551616 → D.atKey (.int .u64 (v : Int)) (.lit (.bool false)) = .lit (.bool (f v))

theorem SeenIs.made (w : World) : SeenIs (w.alloc (.map #[] 0)) w.heap.size 0 (fun _ => false) :=
  ⟨.map [], World.ownsMap_made w _ _ _, fun v _ => by simp [DataW.atKey]⟩

theorem plainElem_bool_inv {P : Program} {H : Type} {e : TypeId} (he : P.underlying e = some .bool) {v : Value} {z : DataW H × List MemPlace} (h : plainElem P e v = some z) : ∃ x, v = .bool x ∧ z = (.lit (.bool x), []) := by
  unfold plainElem at h
  rw [he] at h
  cases v <;> simp at h
  subst h
  exact ⟨_, rfl, rfl⟩

theorem SeenIs.look {w : World} {bs n : Nat} {f : Nat → Bool} (h : SeenIs w bs n f) {v : Nat} (hv : v < 18446744073709551616) :
    (Instr.lookup 44 (.map (some bs)) (.int .u64 (v : Int)) false).run Try.prog w = .ok (.bool (f v)) w := by
  obtain ⟨D, hown, hD⟩ := h
  obtain ⟨x, ps, hrun, hx⟩ := hown.lookup law25 Try.underlying44 (zero4 w) (plainElem_bool Try.underlying4 false) (keyOf_int_mk Try.underlying25 (wf_u64 hv))
  obtain ⟨c, rfl, hc⟩ := plainElem_bool_inv Try.underlying4 hx
  rw [hD v hv] at hc
  simp only [Prod.mk.injEq, DataW.lit.injEq, Lit.bool.injEq] at hc
  rw [hrun, hc.1]

theorem SeenIs.put {w : World} {bs n : Nat} {f : Nat → Bool} (h : SeenIs w bs n f) {v : Nat} (hv : v < 18446744073709551616) (hn : n < maxLen) (g : Nat → Bool) (hg1 : g v = true) (hg2 : ∀ u, u ≠ v → g u = f u) :
    ∃ w', (Instr.mapUpdate 44 (.map (some bs)) (.int .u64 (v : Int)) (.bool true)).run Try.prog w = .ok () w' ∧ SeenIs w' bs (n + 1) g ∧ w.grownBy w' (some bs) := by
  obtain ⟨D, hown, hD⟩ := h
  have hk := keyOf_int_mk Try.underlying25 (wf_u64 hv)
  obtain ⟨w', hrun, hown', hgr⟩ := hown.update law25 Try.underlying44 hn hk (plainElem_bool Try.underlying4 true)
  refine ⟨w', hrun, ⟨_, hown', fun u hu => ?_⟩, hgr⟩
  by_cases e : u = v
  · subst e
    rw [atKey_put_same hown.isMap (by simp [WideAt.IsKeyLit]), hg1]
  · rw [atKey_put_other (by intro h; simp at h; omega), hD u hu, hg2 u e]

theorem SeenIs.other {w : World} {bs n : Nat} {f : Nat → Bool} (h : SeenIs w bs n f) {a : Addr} (ha : bs ≠ a.block) (v : Value) : SeenIs (w.setCell a v) bs n f := by
  obtain ⟨D, hown, hD⟩ := h
  exact ⟨D, hown.setCell ha v, hD⟩
theorem SeenIs.same {w : World} {bs n : Nat} {f g : Nat → Bool} (h : SeenIs w bs n f) (hg : ∀ v, g v = f v) : SeenIs w bs (n + 1) g := by
  obtain ⟨D, hown, hD⟩ := h
  exact ⟨D, hown.mono (Nat.le_succ _), fun v hv => by rw [hg, hD v hv]⟩

end Go.Proofs.Qxb6600340a
