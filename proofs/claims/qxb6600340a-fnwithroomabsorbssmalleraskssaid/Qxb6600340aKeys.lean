/-
  Rows of keys (three cells each), slices of int32; 'sagaB1Min3' (16), 'ZZMakeKey' (22), 'ZZKeyParts' (21), 'sagaB1CopyI32' (14).
-/
import Derived.Test.Qxb6600340aCopy
import Derived.RegionTactic
import Derived.Deep.QuietTactic
import Derived.BigQuiet
namespace Go.Proofs.Qxb6600340a
open Go.RowKit Go.Maps

theorem ret_num {k : IntKind} {a b : Int} (h : a = b) : Ending.returned (.int k a) = .returned (.int k b) := by rw [h]

theorem min3_any (a b c : Int) (w : World) :
    Calls Try.prog 16 #[.int .i64 a, .int .i64 b, .int .i64 c] w fun e w' => e = .returned (.int .i64 (min (min a b) c)) ∧ w' = w := by
  go_enter Try.func16, Try.ntmps16
  go_wp2
  all_goals (go_ret; exact ⟨ret_num (by omega), rfl⟩)

theorem makeKey_any (n d id : Int) (w : World) :
    Calls Try.prog 22 #[.int .i32 n, .int .i32 d, .int .u64 id] w fun e w' => e = .returned (.agg #[.int .i32 n, .int .i32 d, .int .u64 id]) ∧ w' = w.alloc (.cells #[.int .i32 n, .int .i32 d, .int .u64 id] 38) := by
  go_enter Try.func22, Try.ntmps22
  go_wp2
  exact bodyPost_ret (v := .agg #[.int .i32 n, .int .i32 d, .int .u64 id]) (by simp [results, Try.results22, go_sem]) rfl ⟨rfl, rfl⟩

theorem keyParts_any (n d id : Int) (w : World) :
    Calls Try.prog 21 #[.agg #[.int .i32 n, .int .i32 d, .int .u64 id]] w fun e w' => e = .returned (.tuple #[.int .i32 n, .int .i32 d, .int .u64 id]) ∧ Below w.heap.size w w' := by
  go_enter Try.func21, Try.ntmps21
  go_wp2
  go_quiet (fail)
  go_wp2
  go_ret3
  exact ⟨rfl, below_drewN ((Below.refl _ _).alloc (Nat.le_refl _) _) _⟩

/-! ### rows of keys -/
def keyCells : List (Int × Int × Nat) → List Value
  | [] => []
  | x :: r => .int .i32 x.1 :: .int .i32 x.2.1 :: .int .u64 (x.2.2 : Int) :: keyCells r
def key0 : Int × Int × Nat := (0, 0, 0)

theorem keyCells_length : ∀ ks : List (Int × Int × Nat), (keyCells ks).length = ks.length * 3
  | [] => rfl
  | x :: r => by simp only [keyCells, List.length_cons, keyCells_length r]; omega
theorem keyCells_at0 : ∀ (ks : List (Int × Int × Nat)) (k : Nat), k < ks.length → (keyCells ks)[k * 3]? = some (.int .i32 (ks.getD k key0).1)
  | [], k, h => by simp at h
  | x :: r, 0, _ => by simp [keyCells]
  | x :: r, k + 1, h => by
    have := keyCells_at0 r k (by simpa using h)
    rw [show (k + 1) * 3 = k * 3 + 1 + 1 + 1 by omega]
    simpa [keyCells] using this
theorem keyCells_at1 : ∀ (ks : List (Int × Int × Nat)) (k : Nat), k < ks.length → (keyCells ks)[k * 3 + 1]? = some (.int .i32 (ks.getD k key0).2.1)
  | [], k, h => by simp at h
  | x :: r, 0, _ => by simp [keyCells]
  | x :: r, k + 1, h => by
    have := keyCells_at1 r k (by simpa using h)
    rw [show (k + 1) * 3 + 1 = k * 3 + 1 + 1 + 1 + 1 by omega]
    simpa [keyCells] using this
theorem keyCells_at2 : ∀ (ks : List (Int × Int × Nat)) (k : Nat), k < ks.length → (keyCells ks)[k * 3 + 2]? = some (.int .u64 ((ks.getD k key0).2.2 : Int))
  | [], k, h => by simp at h
  | x :: r, 0, _ => by simp [keyCells]
  | x :: r, k + 1, h => by
    have := keyCells_at2 r k (by simpa using h)
    rw [show (k + 1) * 3 + 2 = k * 3 + 2 + 1 + 1 + 1 by omega]
    simpa [keyCells] using this
theorem keyCells_set : ∀ (ks : List (Int × Int × Nat)) (k : Nat) (a b : Int) (c : Nat),
    (((keyCells ks).set (k * 3) (.int .i32 a)).set (k * 3 + 1) (.int .i32 b)).set (k * 3 + 2) (.int .u64 (c : Int)) = keyCells (ks.set k (a, b, c))
  | [], k, a, b, c => by simp [keyCells]
  | x :: r, 0, a, b, c => by simp [keyCells]
  | x :: r, k + 1, a, b, c => by
    have := keyCells_set r k a b c
    rw [show (k + 1) * 3 = k * 3 + 1 + 1 + 1 by omega, show k * 3 + 1 + 1 + 1 + 1 = (k * 3 + 1) + 1 + 1 + 1 by omega, show k * 3 + 1 + 1 + 1 + 2 = (k * 3 + 2) + 1 + 1 + 1 by omega]
    simpa [keyCells] using this
theorem keyCells_append : ∀ a b : List (Int × Int × Nat), keyCells (a ++ b) = keyCells a ++ keyCells b
  | [], b => rfl
  | x :: r, b => by simp [keyCells, keyCells_append r b]
theorem keyCells_take : ∀ (ks : List (Int × Int × Nat)) (n : Nat), (keyCells ks).take (n * 3) = keyCells (ks.take n)
  | ks, 0 => by simp [keyCells]
  | [], n + 1 => by simp [keyCells]
  | x :: r, n + 1 => by
    rw [show (n + 1) * 3 = n * 3 + 1 + 1 + 1 by omega]
    simp [keyCells, keyCells_take r n]
theorem keyCells_drop : ∀ (ks : List (Int × Int × Nat)) (n : Nat), (keyCells ks).drop (n * 3) = keyCells (ks.drop n)
  | ks, 0 => by simp
  | [], n + 1 => by simp [keyCells]
  | x :: r, n + 1 => by
    rw [show (n + 1) * 3 = n * 3 + 1 + 1 + 1 by omega]
    simp [keyCells, keyCells_drop r n]
theorem keyCells_one : ∀ ks : List (Int × Int × Nat), ∀ v ∈ keyCells ks, v.oneCell' = true
  | [], v, h => by simp [keyCells] at h
  | x :: r, v, h => by
    simp only [keyCells, List.mem_cons] at h
    rcases h with rfl | rfl | rfl | h
    · rfl
    · rfl
    · rfl
    · exact keyCells_one r v h

/-- Block b of w is the row of keys ks, all of it free to be written. -/
def RowK (w : World) (b : Nat) (ks : List (Int × Int × Nat)) : Prop := w.heap[b]? = some (.cells (keyCells ks).toArray 38 (0, 0))

theorem RowK.lt {w : World} {b : Nat} {ks : List (Int × Int × Nat)} (h : RowK w b ks) : b < w.heap.size := (Array.getElem?_eq_some_iff.1 h).1
theorem RowK.free {w : World} {b : Nat} {ks : List (Int × Int × Nat)} (h : RowK w b ks) (j : Nat) : w.frozen? ⟨b, j, none⟩ = false := frozen_of_row w b j _ _ h
theorem RowK.cell0 {w : World} {b : Nat} {ks : List (Int × Int × Nat)} (h : RowK w b ks) {k : Nat} (hk : k < ks.length) : w.cell? ⟨b, k * 3, none⟩ = some (.int .i32 (ks.getD k key0).1) := by
  rw [cell_of_row w b _ _ _ _ h, List.getElem?_toArray, keyCells_at0 ks k hk]
theorem RowK.cell1 {w : World} {b : Nat} {ks : List (Int × Int × Nat)} (h : RowK w b ks) {k : Nat} (hk : k < ks.length) : w.cell? ⟨b, k * 3 + 1, none⟩ = some (.int .i32 (ks.getD k key0).2.1) := by
  rw [cell_of_row w b _ _ _ _ h, List.getElem?_toArray, keyCells_at1 ks k hk]
theorem RowK.cell2 {w : World} {b : Nat} {ks : List (Int × Int × Nat)} (h : RowK w b ks) {k : Nat} (hk : k < ks.length) : w.cell? ⟨b, k * 3 + 2, none⟩ = some (.int .u64 ((ks.getD k key0).2.2 : Int)) := by
  rw [cell_of_row w b _ _ _ _ h, List.getElem?_toArray, keyCells_at2 ks k hk]
theorem RowK.alloc {w : World} {b : Nat} {ks : List (Int × Int × Nat)} (h : RowK w b ks) (o : Obj) : RowK (w.alloc o) b ks := by
  unfold RowK
  rw [Below.heap_alloc w o b h.lt]; exact h
theorem RowK.drew {w : World} {b : Nat} {ks : List (Int × Int × Nat)} (h : RowK w b ks) : RowK w.drew b ks := h
theorem RowK.drewN {w : World} {b : Nat} {ks : List (Int × Int × Nat)} (h : RowK w b ks) (n : Nat) : RowK (w.drewN n) b ks := h
theorem RowK.below {w w' : World} {b B : Nat} {ks : List (Int × Int × Nat)} (h : RowK w b ks) (hb : Below B w w') (hB : b < B) : RowK w' b ks := (hb.block b hB).trans h
theorem RowK.set {w : World} {b : Nat} {ks : List (Int × Int × Nat)} (h : RowK w b ks) (k : Nat) (x y : Int) (z : Nat) :
    RowK (((w.setCell ⟨b, k * 3, none⟩ (.int .i32 x)).setCell ⟨b, k * 3 + 1, none⟩ (.int .i32 y)).setCell ⟨b, k * 3 + 2, none⟩ (.int .u64 (z : Int))) b (ks.set k (x, y, z)) := by
  have h1 := heap_setCell_same w b (k * 3) _ _ (.int .i32 x) h
  have h2 := heap_setCell_same _ b (k * 3 + 1) _ _ (.int .i32 y) h1
  have h3 := heap_setCell_same _ b (k * 3 + 2) _ _ (.int .u64 (z : Int)) h2
  unfold RowK
  rw [h3, ← keyCells_set]
  simp

/-! ### slices of int32 -/
def i32s (zs : List Int) : Array Value := (zs.map (Value.int .i32)).toArray
def RowI (w : World) (b : Nat) (zs : List Int) : Prop := w.heap[b]? = some (.cells (i32s zs) 21 (0, 0))
def SlI (w : World) (a : Option Addr) (zs : List Int) : Prop :=
  0 < zs.length → ∃ b off, a = some ⟨b, off, none⟩ ∧ b < w.heap.size ∧ ∀ j, j < zs.length → w.cell? ⟨b, off + j, none⟩ = some (.int .i32 (zs.getD j 0))
theorem Try.info21 : (Try.prog.info? 21).map (fun i => (i.zero, i.size, i.bytes)) = some (some (.int .i32 0), 1, 4) := by kernel_rfl
theorem i32s_at (zs : List Int) (j : Nat) (h : j < zs.length) : (i32s zs)[j]? = some (.int .i32 (zs.getD j 0)) := by
  simp [i32s, List.getD_eq_getElem?_getD, h]
theorem i32s_set (zs : List Int) (j : Nat) (x : Int) : (i32s zs).setIfInBounds j (.int .i32 x) = i32s (zs.set j x) := by
  apply Array.toList_inj.1
  simp [i32s, List.map_set]
theorem made_i32 (n : Nat) : madeCells #[Value.int .i32 0] n = i32s (List.replicate n 0) := by
  apply Array.toList_inj.1
  rw [toList_madeCells_one]
  simp [i32s]
theorem make_i32 (n : Nat) (hn : n ≤ 1000000) (k : IntKind) (w : World) :
    (Instr.makeSlice 28 (.int k n) (.int k n)).run Try.prog w = .ok (.slice (some ⟨w.heap.size, 0, none⟩) n n) (w.alloc (.cells (i32s (List.replicate n 0)) 21)) := by
  obtain ⟨i0, hi, hz0, hz1, hz2⟩ := info_parts Try.info21
  have h := run_make (P := Try.prog) w 28 21 i0 _ Try.underlying28 hi hz0 k k n n (by omega) (by omega) (by rw [hz2]; omega) (by omega)
  rw [h]
  simp [hz1, Value.cells, made_i32]
theorem RowI.lt {w : World} {b : Nat} {zs : List Int} (h : RowI w b zs) : b < w.heap.size := (Array.getElem?_eq_some_iff.1 h).1
theorem RowI.cell {w : World} {b : Nat} {zs : List Int} (h : RowI w b zs) {j : Nat} (hj : j < zs.length) : w.cell? ⟨b, j, none⟩ = some (.int .i32 (zs.getD j 0)) := by
  rw [cell_of_row w b j _ _ _ h, i32s_at zs j hj]
theorem RowI.free {w : World} {b : Nat} {zs : List Int} (h : RowI w b zs) (j : Nat) : w.frozen? ⟨b, j, none⟩ = false := frozen_of_row w b j _ _ h
theorem RowI.set {w : World} {b : Nat} {zs : List Int} (h : RowI w b zs) (j : Nat) (x : Int) : RowI (w.setCell ⟨b, j, none⟩ (.int .i32 x)) b (zs.set j x) := by
  have := heap_setCell_same w b j _ _ (.int .i32 x) h
  unfold RowI
  rw [this, ← i32s_set]
theorem RowI.made (w : World) (zs : List Int) : RowI (w.alloc (.cells (i32s zs) 21)) w.heap.size zs := heap_alloc_new w _
theorem RowI.sli {w : World} {b : Nat} {zs : List Int} (h : RowI w b zs) : SlI w (some ⟨b, 0, none⟩) zs := fun _ =>
  ⟨b, 0, rfl, h.lt, fun j hj => by rw [Nat.zero_add]; exact h.cell hj⟩
theorem SlI.below {w w' : World} {B : Nat} {a : Option Addr} {zs : List Int} (h : SlI w a zs) (hb : Below B w w') (hB : w.heap.size ≤ B) : SlI w' a zs := by
  intro hp
  obtain ⟨b, off, e, hlt, hc⟩ := h hp
  have := hb.size
  exact ⟨b, off, e, by omega, fun j hj => (hb.cell (p := ⟨b, off + j, none⟩) (by show b < B; omega)).trans (hc j hj)⟩

theorem takeI_set_snoc (L : List Int) (k : Nat) (x : Int) (h : k < L.length) : (L.set k x).take (k + 1) = L.take k ++ [x] := by
  rw [List.take_succ_eq_append_getElem (by simpa using h), List.getElem_set_self, List.take_set_of_le (Nat.le_refl _)]
theorem takeI_snoc (zs : List Int) (k : Nat) (h : k < zs.length) : zs.take (k + 1) = zs.take k ++ [zs.getD k 0] := by
  rw [List.take_succ_eq_append_getElem h, List.getD_eq_getElem?_getD, List.getElem?_eq_getElem h]; rfl

theorem copyi_nil (w : World) : Calls Try.prog 14 #[.slice none 0 0] w fun e w' => e = .returned (.slice none 0 0) ∧ w' = w := by
  have hq : ∀ (w : World) (a : Option Addr) (n c : Nat), (binOp .eql 28 (.slice a n c) (.slice none 0 0)).run Try.prog w = .ok (.bool a.isNone) w := fun w a n c => eql_nil w a n c Try.underlying28
  go_enter Try.func14, Try.ntmps14
  go_wp2
  go_ret
  exact ⟨rfl, rfl⟩

set_option maxHeartbeats 400000 in
theorem copyi_some (x : Addr) (cap n : Nat) (zs : List Int) (hn : zs.length = n) (hl : n ≤ 300000) (w : World) (hs : SlI w (some x) zs) :
    Calls Try.prog 14 #[.slice (some x) n cap] w fun e w' => e = .returned (.slice (some ⟨w.heap.size, 0, none⟩) n n) ∧ RowI w' w.heap.size zs ∧ Below w.heap.size w w' := by
  have Hlen : Hid (zs.length = n) := hn
  clear hn
  have hmk : ∀ w : World, (Instr.makeSlice 28 (.int .i64 ((n : Nat) : Int)) (.int .i64 ((n : Nat) : Int))).run Try.prog w = .ok (.slice (some ⟨w.heap.size, 0, none⟩) n n) (w.alloc (.cells (i32s (List.replicate n 0)) 21)) := fun w => make_i32 n (by omega) .i64 w
  have hq : ∀ (w : World) (a : Option Addr) (n c : Nat), (binOp .eql 28 (.slice a n c) (.slice none 0 0)).run Try.prog w = .ok (.bool a.isNone) w := fun w a n c => eql_nil w a n c Try.underlying28
  go_enter Try.func14, Try.ntmps14
  go_wp2
  go_loopw [4] (fun i wr => ∃ (k : Nat) (L : List Int), k ≤ n ∧ i = .int .i64 k ∧ L.length = n ∧ RowI wr w.heap.size L ∧ L.take k = zs.take k ∧ Below w.heap.size w wr) (fun i _ => n - (intOf i).toNat)
  case atStart => exact ⟨0, _, by omega, rfl, by simp, RowI.made _ _, by simp, (Below.refl _ _).alloc (Nat.le_refl _) _⟩
  case round =>
    obtain ⟨k, L, hk, rfl, hL, hrow, htk, hB⟩ := hrel
    have HL : Hid (L.length = n) := hL
    have Htk : Hid (L.take k = zs.take k) := htk
    clear hL htk
    by_cases hlt : k < n
    · obtain ⟨b, off, he, hb, hc⟩ := hs (by rw [Hlen.out]; omega)
      obtain rfl : x = ⟨b, off, none⟩ := by simpa using he
      clear he
      obtain ⟨x, hx⟩ : ∃ x, x = zs.getD k 0 := ⟨_, rfl⟩
      have hcx : wr.cell? ⟨b, off + k, none⟩ = some (.int .i32 x) := by
        rw [hx]; exact (hB.cell (by exact hb)).trans (hc k (by rw [Hlen.out]; exact hlt))
      have Hx : Hid (x = zs.getD k 0) := hx
      have hc0 := hrow.cell (j := k) (by rw [HL.out]; omega)
      have hf0 := hrow.free k
      clear hx hc
      go_wp2
      go_roundw
      case rel =>
        refine ⟨k + 1, L.set k x, by omega, by go_num, by rw [List.length_set]; exact HL.out, hrow.set _ _, ?_, hB.setCell (Nat.le_refl _) _⟩
        rw [takeI_set_snoc _ _ _ (by rw [HL.out]; omega), Htk.out, takeI_snoc _ _ (by rw [Hlen.out]; omega), Hx.out]
      case measure => simp [intOf]; omega
    · have HA : Hid (L = zs) := by
        have := Htk.out
        rw [List.take_of_length_le (by rw [HL.out]; omega), List.take_of_length_le (by rw [Hlen.out]; omega)] at this
        exact this
      go_wp2
      go_ret
      exact ⟨rfl, by rw [← HA.out]; exact hrow, hB⟩

/-- The copy, nil or not. -/
theorem copyi_any (a : Option Addr) (cap n : Nat) (zs : List Int) (hn : zs.length = n) (hnil : a = none → n = 0 ∧ cap = 0) (hl : n ≤ 300000) (w : World) (hs : SlI w a zs) :
    Calls Try.prog 14 #[.slice a n cap] w fun e w' => (∃ a' c', e = .returned (.slice a' n c') ∧ SlI w' a' zs) ∧ Below w.heap.size w w' := by
  cases a with
  | none =>
    obtain ⟨rfl, rfl⟩ := hnil rfl
    refine (copyi_nil w).mono ?_
    rintro e w' ⟨rfl, rfl⟩
    exact ⟨⟨none, 0, rfl, hs⟩, Below.refl _ _⟩
  | some x =>
    refine (copyi_some x cap n zs hn hl w hs).mono ?_
    rintro e w' ⟨rfl, hr, hb⟩
    exact ⟨⟨_, _, rfl, hr.sli⟩, hb⟩

theorem Try.info38 : (Try.prog.info? 38).map (fun i => (i.zero, i.size, i.bytes)) = some (some (.agg #[.int .i32 0, .int .i32 0, .int .u64 0]), 3, 16) := by kernel_rfl

theorem made_keys (n : Nat) : madeCells #[.int .i32 0, .int .i32 0, .int .u64 0] (n * 3) = (keyCells (List.replicate n key0)).toArray := by
  apply Array.toList_inj.1
  apply List.ext_getElem?
  intro j
  by_cases hj : j < n * 3
  · have hjn : j / 3 < (List.replicate n key0).length := by simp; omega
    have e : (List.replicate n key0).getD (j / 3) key0 = key0 := by rw [List.getD_eq_getElem?_getD, List.getElem?_eq_getElem hjn]; simp
    have hm : (madeCells #[.int .i32 0, .int .i32 0, .int .u64 0] (n * 3)).toList[j]? = some (#[Value.int .i32 0, .int .i32 0, .int .u64 0][j % 3]!) := by
      simp [madeCells, hj]
    rw [hm]
    have h3 : j % 3 = 0 ∨ j % 3 = 1 ∨ j % 3 = 2 := by omega
    rcases h3 with h3 | h3 | h3
    · have := keyCells_at0 _ _ hjn
      rw [e, show j / 3 * 3 = j by omega] at this
      rw [h3]; exact this.symm
    · have := keyCells_at1 _ _ hjn
      rw [e, show j / 3 * 3 + 1 = j by omega] at this
      rw [h3]; exact this.symm
    · have := keyCells_at2 _ _ hjn
      rw [e, show j / 3 * 3 + 2 = j by omega] at this
      rw [h3]; exact this.symm
  · rw [List.getElem?_eq_none (by simp [size_madeCells]; omega), List.getElem?_eq_none (by simp [keyCells_length]; omega)]

theorem make_keys (m c : Nat) (hm : m ≤ c) (hc : c ≤ 1000000) (w : World) :
    (Instr.makeSlice 31 (.int .i64 m) (.int .i64 c)).run Try.prog w = .ok (.slice (some ⟨w.heap.size, 0, none⟩) m c) (w.alloc (.cells (keyCells (List.replicate c key0)).toArray 38)) := by
  obtain ⟨i0, hi, hz0, hz1, hz2⟩ := info_parts Try.info38
  have h := run_make (P := Try.prog) w 31 38 i0 _ Try.underlying31 hi hz0 .i64 .i64 m c (by omega) (by omega) (by rw [hz2]; omega) (by omega)
  rw [h]
  simp [hz1, Value.cells, made_keys]

theorem RowK.made (w : World) (ks : List (Int × Int × Nat)) : RowK (w.alloc (.cells (keyCells ks).toArray 38)) w.heap.size ks := heap_alloc_new w _

end Go.Proofs.Qxb6600340a
