/-
  Slices of strings: 'eventtype.MatchesAny' (16), 'zzEtB1CloneStrings' (15), 'zzEtB1ListTooBig' (14), 'zzBytes_..' (17).
-/
import Derived.Test.Qxb6600397aStr
namespace Go.Proofs.Qxb6600397a
open Go.RowKit

/-- The slice at 'a' shows the strings ss (of a slice of no element nothing is said). -/
def SlS (w : World) (a : Option Addr) (ss : List (List UInt8)) : Prop :=
  0 < ss.length → ∃ b off, a = some ⟨b, off, none⟩ ∧ b < w.heap.size ∧ ∀ j, j < ss.length → w.cell? ⟨b, off + j, none⟩ = some (.string ⟨(ss.getD j []).toArray⟩)
/-- The cells of a row of strings. -/
def strs (ss : List (List UInt8)) : Array Value := (ss.map (fun l => Value.string ⟨l.toArray⟩)).toArray
def RowS (w : World) (b : Nat) (ss : List (List UInt8)) : Prop := w.heap[b]? = some (.cells (strs ss) 9 (0, 0))

theorem Try.info9 : (Try.prog.info? 9).map (fun i => (i.zero, i.size, i.bytes)) = some (some (.string ⟨#[]⟩), 1, 16) := by kernel_rfl

theorem strs_at (ss : List (List UInt8)) (j : Nat) (h : j < ss.length) : (strs ss)[j]? = some (.string ⟨(ss.getD j []).toArray⟩) := by
  simp [strs, List.getD_eq_getElem?_getD, h]
theorem strs_set (ss : List (List UInt8)) (j : Nat) (x : List UInt8) : (strs ss).setIfInBounds j (.string ⟨x.toArray⟩) = strs (ss.set j x) := by
  apply Array.toList_inj.1
  simp [strs, List.map_set]
theorem made_strs (n : Nat) : madeCells #[Value.string ⟨#[]⟩] n = strs (List.replicate n []) := by
  apply Array.toList_inj.1
  rw [toList_madeCells_one]
  simp [strs]
theorem make_strs (n : Nat) (hn : n ≤ 1000000) (w : World) :
    (Instr.makeSlice 25 (.int .i64 n) (.int .i64 n)).run Try.prog w = .ok (.slice (some ⟨w.heap.size, 0, none⟩) n n) (w.alloc (.cells (strs (List.replicate n [])) 9)) := by
  obtain ⟨i0, hi, hz0, hz1, hz2⟩ := info_parts Try.info9
  have h := run_make (P := Try.prog) w 25 9 i0 _ Try.underlying25 hi hz0 .i64 .i64 n n (by omega) (by omega) (by rw [hz2]; omega) (by omega)
  rw [h]
  simp [hz1, Value.cells, made_strs]
theorem RowS.lt {w : World} {b : Nat} {ss : List (List UInt8)} (h : RowS w b ss) : b < w.heap.size := (Array.getElem?_eq_some_iff.1 h).1
theorem RowS.cell {w : World} {b : Nat} {ss : List (List UInt8)} (h : RowS w b ss) {j : Nat} (hj : j < ss.length) : w.cell? ⟨b, j, none⟩ = some (.string ⟨(ss.getD j []).toArray⟩) := by
  rw [cell_of_row w b j _ _ _ h, strs_at ss j hj]
theorem RowS.free {w : World} {b : Nat} {ss : List (List UInt8)} (h : RowS w b ss) (j : Nat) : w.frozen? ⟨b, j, none⟩ = false := frozen_of_row w b j _ _ h
theorem RowS.set {w : World} {b : Nat} {ss : List (List UInt8)} (h : RowS w b ss) (j : Nat) (x : List UInt8) : RowS (w.setCell ⟨b, j, none⟩ (.string ⟨x.toArray⟩)) b (ss.set j x) := by
  have := heap_setCell_same w b j _ _ (.string ⟨x.toArray⟩) h
  unfold RowS
  rw [this, ← strs_set]
theorem RowS.made (w : World) (ss : List (List UInt8)) : RowS (w.alloc (.cells (strs ss) 9)) w.heap.size ss := heap_alloc_new w _
/-- A row shows every part of itself. -/
theorem RowS.sls {w : World} {b : Nat} {ss : List (List UInt8)} (h : RowS w b ss) (i n : Nat) : SlS w (some ⟨b, i, none⟩) ((ss.drop i).take n) := fun _ =>
  ⟨b, i, rfl, h.lt, fun j hj => by
    have hl : j < n ∧ i + j < ss.length := by simp at hj; omega
    rw [h.cell hl.2]
    simp [List.getD_eq_getElem?_getD, hl.1]⟩
theorem SlS.below {w w' : World} {B : Nat} {a : Option Addr} {ss : List (List UInt8)} (h : SlS w a ss) (hb : Below B w w') (hB : w.heap.size ≤ B) : SlS w' a ss := by
  intro hp
  obtain ⟨b, off, e, hlt, hc⟩ := h hp
  have := hb.size
  exact ⟨b, off, e, by omega, fun j hj => (hb.cell (p := ⟨b, off + j, none⟩) (by show b < B; omega)).trans (hc j hj)⟩
theorem SlS.nil (w : World) (a : Option Addr) : SlS w a [] := fun h => absurd h (by simp)

/-- Does some pattern of the list match? -/
def anyB (ss : List (List UInt8)) (t : List UInt8) : Bool := ss.any (fun p => matchB p t)
theorem anyB_take_yes {ss : List (List UInt8)} {t : List UInt8} {k : Nat} (hk : k < ss.length) (h : matchB (ss.getD k []) t = true) : anyB ss t = true := by
  unfold anyB
  rw [List.any_eq_true]
  refine ⟨ss.getD k [], ?_, h⟩
  rw [List.getD_eq_getElem?_getD, List.getElem?_eq_getElem hk]
  exact List.getElem_mem _
theorem anyB_none {ss : List (List UInt8)} {t : List UInt8} (h : ∀ k, k < ss.length → matchB (ss.getD k []) t = false) : anyB ss t = false := by
  unfold anyB
  rw [List.any_eq_false]
  intro p hp
  obtain ⟨k, hk, rfl⟩ := List.mem_iff_getElem.1 hp
  have := h k hk
  rw [List.getD_eq_getElem?_getD, List.getElem?_eq_getElem hk] at this
  simpa using this

theorem getD_le {ss : List (List UInt8)} {B : Nat} (h : ∀ s ∈ ss, s.length ≤ B) (k : Nat) : (ss.getD k []).length ≤ B := by
  rw [List.getD_eq_getElem?_getD]
  by_cases hk : k < ss.length
  · rw [List.getElem?_eq_getElem hk]; exact h _ (List.getElem_mem _)
  · rw [List.getElem?_eq_none (by omega)]; simp

set_option maxHeartbeats 400000 in
theorem matchesAny_any (a : Option Addr) (n cap : Nat) (ss : List (List UInt8)) (t : List UInt8) (hn : ss.length = n) (hl : n ≤ 1000000) (hs : ∀ s ∈ ss, s.length ≤ 1000000000) (ht : t.length ≤ 1000000000) (w : World) (hS : SlS w a ss) :
    Calls Try.prog 16 #[.slice a n cap, .string ⟨t.toArray⟩] w fun e w' => e = .returned (.bool (anyB ss t)) ∧ w' = w := by
  have Hn : Hid (ss.length = n) := hn
  have Hs : Hid (∀ s ∈ ss, s.length ≤ 1000000000) := hs
  clear hn hs
  go_enter Try.func16, Try.ntmps16
  go_wp2
  go_loop [9] (fun i => ∃ k : Nat, k ≤ n ∧ i = .int .i64 k ∧ Hid (∀ j, j < k → matchB (ss.getD j []) t = false)) (fun i => n - (intOf i).toNat)
  case atStart => exact ⟨0, by omega, rfl, fun j hj => by omega⟩
  case round =>
    obtain ⟨k, hk, rfl, HN⟩ := hrel
    by_cases hlt : k < n
    · obtain ⟨b, off, rfl, hb, hc⟩ := hS (by rw [Hn.out]; omega)
      obtain ⟨p, hp⟩ : ∃ p, p = ss.getD k [] := ⟨_, rfl⟩
      have hpl : p.length ≤ 1000000000 := by rw [hp]; exact getD_le Hs.out k
      have hcx : w.cell? ⟨b, off + k, none⟩ = some (.string ⟨p.toArray⟩) := by rw [hp]; exact hc k (by rw [Hn.out]; exact hlt)
      have Hp : Hid (p = ss.getD k []) := hp
      clear hp hc
      cases hm : matchB p t with
      | true =>
        have hfin : Hid (anyB ss t = true) := anyB_take_yes (k := k) (by rw [Hn.out]; exact hlt) (by rw [← Hp.out]; exact hm)
        go_wp2_with fail
        refine (matches_any p t hpl ht _).mono ?_
        rintro e w' ⟨rfl, hw⟩
        subst hw
        go_wp2
        go_ret
        exact ⟨ret_bool hfin.out.symm, rfl⟩
      | false =>
        go_wp2_with fail
        refine (matches_any p t hpl ht _).mono ?_
        rintro e w' ⟨rfl, hw⟩
        subst hw
        go_wp2
        go_round
        case rel =>
          refine ⟨k + 1, by omega, by go_num, fun j hj => ?_⟩
          by_cases e : j = k
          · subst e; rw [← Hp.out]; exact hm
          · exact HN.out j (by omega)
        case measure => simp [intOf]; omega
    · have hfin : Hid (anyB ss t = false) := anyB_none (fun j hj => HN.out j (by rw [Hn.out] at hj; omega))
      go_wp2
      go_ret
      exact ⟨ret_bool hfin.out.symm, rfl⟩

/-! ### 'zzEtB1CloneStrings' -/
theorem eql_nil {P : Program} (w : World) {t e : TypeId} (a : Option Addr) (n c : Nat) (ht : P.underlying t = some (.slice e)) :
    (binOp .eql t (.slice a n c) (.slice none 0 0)).run P w = .ok (.bool a.isNone) w := by
  have h : ∀ d : Nat, (Op.equalIn (d + 1) t (.slice a n c) (.slice none 0 0)).run P w = .ok a.isNone w := fun d => by
    cases a <;> simp [Op.equalIn, run_underlying ht]
  simp only [binOp]
  simp [Op.equal, Op.maxDepth, h 9999]

theorem clone_nil (w : World) : Calls Try.prog 15 #[.slice none 0 0] w fun e w' => e = .returned (.slice none 0 0) ∧ w' = w := by
  have hq : ∀ (w : World) (a : Option Addr) (n c : Nat), (binOp .eql 25 (.slice a n c) (.slice none 0 0)).run Try.prog w = .ok (.bool a.isNone) w := fun w a n c => eql_nil w a n c Try.underlying25
  go_enter Try.func15, Try.ntmps15
  go_wp2
  go_ret
  exact ⟨rfl, rfl⟩

theorem takeS_set_snoc (L : List (List UInt8)) (k : Nat) (x : List UInt8) (h : k < L.length) : (L.set k x).take (k + 1) = L.take k ++ [x] := by
  rw [List.take_succ_eq_append_getElem (by simpa using h), List.getElem_set_self, List.take_set_of_le (Nat.le_refl _)]
theorem takeS_snoc (zs : List (List UInt8)) (k : Nat) (h : k < zs.length) : zs.take (k + 1) = zs.take k ++ [zs.getD k []] := by
  rw [List.take_succ_eq_append_getElem h, List.getD_eq_getElem?_getD, List.getElem?_eq_getElem h]; rfl

set_option maxHeartbeats 400000 in
theorem clone_some (x : Addr) (cap n : Nat) (zs : List (List UInt8)) (hn : zs.length = n) (hl : n ≤ 200000) (w : World) (hs : SlS w (some x) zs) :
    Calls Try.prog 15 #[.slice (some x) n cap] w fun e w' => e = .returned (.slice (some ⟨w.heap.size, 0, none⟩) n n) ∧ RowS w' w.heap.size zs ∧ Below w.heap.size w w' := by
  have Hlen : Hid (zs.length = n) := hn
  clear hn
  have hmk : ∀ w : World, (Instr.makeSlice 25 (.int .i64 ((n : Nat) : Int)) (.int .i64 ((n : Nat) : Int))).run Try.prog w = .ok (.slice (some ⟨w.heap.size, 0, none⟩) n n) (w.alloc (.cells (strs (List.replicate n [])) 9)) := fun w => make_strs n (by omega) w
  have hq : ∀ (w : World) (a : Option Addr) (n c : Nat), (binOp .eql 25 (.slice a n c) (.slice none 0 0)).run Try.prog w = .ok (.bool a.isNone) w := fun w a n c => eql_nil w a n c Try.underlying25
  go_enter Try.func15, Try.ntmps15
  go_wp2
  go_loopw [4] (fun i wr => ∃ (k : Nat) (L : List (List UInt8)), k ≤ n ∧ i = .int .i64 k ∧ L.length = n ∧ RowS wr w.heap.size L ∧ L.take k = zs.take k ∧ Below w.heap.size w wr) (fun i _ => n - (intOf i).toNat)
  case atStart => exact ⟨0, _, by omega, rfl, by simp, RowS.made _ _, by simp, (Below.refl _ _).alloc (Nat.le_refl _) _⟩
  case round =>
    obtain ⟨k, L, hk, rfl, hL, hrow, htk, hB⟩ := hrel
    have HL : Hid (L.length = n) := hL
    have Htk : Hid (L.take k = zs.take k) := htk
    clear hL htk
    by_cases hlt : k < n
    · obtain ⟨b, off, he, hb, hc⟩ := hs (by rw [Hlen.out]; omega)
      obtain rfl : x = ⟨b, off, none⟩ := by simpa using he
      clear he
      obtain ⟨x, hx⟩ : ∃ x, x = zs.getD k [] := ⟨_, rfl⟩
      have hcx : wr.cell? ⟨b, off + k, none⟩ = some (.string ⟨x.toArray⟩) := by
        rw [hx]; exact (hB.cell (by exact hb)).trans (hc k (by rw [Hlen.out]; exact hlt))
      have Hx : Hid (x = zs.getD k []) := hx
      have hc0 := hrow.cell (j := k) (by rw [HL.out]; omega)
      have hf0 := hrow.free k
      clear hx hc
      go_wp2
      go_roundw
      case rel =>
        refine ⟨k + 1, L.set k x, by omega, by go_num, by rw [List.length_set]; exact HL.out, hrow.set _ _, ?_, hB.setCell (Nat.le_refl _) _⟩
        rw [takeS_set_snoc _ _ _ (by rw [HL.out]; omega), Htk.out, takeS_snoc _ _ (by rw [Hlen.out]; omega), Hx.out]
      case measure => simp [intOf]; omega
    · have HA : Hid (L = zs) := by
        have := Htk.out
        rw [List.take_of_length_le (by rw [HL.out]; omega), List.take_of_length_le (by rw [Hlen.out]; omega)] at this
        exact this
      go_wp2
      go_ret
      exact ⟨rfl, by rw [← HA.out]; exact hrow, hB⟩

/-! ### 'zzEtB1ListTooBig' -/
/-- What it says by 'false'. -/
def Fits (ss : List (List UInt8)) (t : List UInt8) : Prop := ss.length ≤ 65536 ∧ t.length ≤ 1048576 ∧ ∀ k, k < ss.length → (ss.getD k []).length ≤ 1048576
def SaysFits (e : Ending) (ss : List (List UInt8)) (t : List UInt8) : Prop := ∃ b : Bool, e = .returned (.bool b) ∧ (b = false → Fits ss t)

set_option maxHeartbeats 1000000 in
theorem tooBig_any (a : Option Addr) (n cap : Nat) (ss : List (List UInt8)) (t : List UInt8) (hn : ss.length = n) (hl : n ≤ 9223372036854775807) (hs : ∀ s ∈ ss, s.length ≤ 9223372036854775807) (ht : t.length ≤ 9223372036854775807) (w : World) (hS : SlS w a ss) :
    Calls Try.prog 14 #[.slice a n cap, .string ⟨t.toArray⟩] w fun e w' => SaysFits e ss t ∧ w' = w := by
  have Hn : Hid (ss.length = n) := hn
  have Hs : Hid (∀ s ∈ ss, s.length ≤ 9223372036854775807) := hs
  clear hn hs
  by_cases h0 : n ≤ 65536 ∧ t.length ≤ 1048576
  · obtain ⟨h1, h2⟩ := h0
    by_cases h3 : t.length + 16 * n ≤ 1048576
    · go_enter Try.func14, Try.ntmps14
      go_wp2
      go_loop [5, 6] (fun s i => ∃ (k : Nat) (x : Nat), k ≤ n ∧ i = .int .i64 k ∧ s = .int .i64 x ∧ x ≤ 1048576 ∧ Hid (∀ j, j < k → (ss.getD j []).length ≤ 1048576)) (fun _ i => n - (intOf i).toNat)
      case atStart => exact ⟨0, t.length + 16 * n, by omega, rfl, by go_num, h3, fun j hj => by omega⟩
      case round =>
        obtain ⟨k, x, hk, rfl, rfl, hx, HB⟩ := hrel
        by_cases hlt : k < n
        · obtain ⟨b, off, rfl, hb, hc⟩ := hS (by rw [Hn.out]; omega)
          obtain ⟨p, hp⟩ : ∃ p, p = ss.getD k [] := ⟨_, rfl⟩
          have hpl : p.length ≤ 9223372036854775807 := by rw [hp]; exact getD_le Hs.out k
          have hcx : w.cell? ⟨b, off + k, none⟩ = some (.string ⟨p.toArray⟩) := by rw [hp]; exact hc k (by rw [Hn.out]; exact hlt)
          have Hp : Hid (p = ss.getD k []) := hp
          clear hp hc
          by_cases hp1 : p.length ≤ 1048576
          · by_cases hp2 : x + p.length ≤ 1048576
            · go_wp2
              go_round
              case rel =>
                refine ⟨k + 1, x + p.length, by omega, by go_num, by go_num, hp2, fun j hj => ?_⟩
                by_cases e : j = k
                · subst e; rw [← Hp.out]; exact hp1
                · exact HB.out j (by omega)
              case measure => simp [intOf]; omega
            · go_wp2
              go_ret
              exact ⟨⟨true, rfl, fun h => by cases h⟩, rfl⟩
          · go_wp2
            go_ret
            exact ⟨⟨true, rfl, fun h => by cases h⟩, rfl⟩
        · have HF : Hid (Fits ss t) := ⟨by rw [Hn.out]; exact h1, h2, fun j hj => HB.out j (by rw [Hn.out] at hj; omega)⟩
          go_wp2
          go_ret
          exact ⟨⟨false, rfl, fun _ => HF.out⟩, rfl⟩
    · go_enter Try.func14, Try.ntmps14
      go_wp2
      go_ret
      exact ⟨⟨true, rfl, fun h => by cases h⟩, rfl⟩
  · go_enter Try.func14, Try.ntmps14
    go_wp2
    all_goals (first
      | (go_ret; exact ⟨⟨true, rfl, fun h => by cases h⟩, rfl⟩)
      | (exfalso; apply h0; omega))

/-! ### 'zzBytes_..' (17, 13): they return; what they answer does not matter -/
def SaysBool (e : Ending) : Prop := ∃ b : Bool, e = .returned (.bool b)

set_option maxHeartbeats 1000000 in
theorem bytes17_any (a : Option Addr) (n cap : Nat) (ss : List (List UInt8)) (k0 : Int) (t : List UInt8) (hn : ss.length = n) (hl : n ≤ 9223372036854775807) (hs : ∀ s ∈ ss, s.length ≤ 9223372036854775807) (ht : t.length ≤ 9223372036854775807) (w : World) (hS : SlS w a ss) :
    Calls Try.prog 17 #[.slice a n cap, .int .i64 k0, .string ⟨t.toArray⟩] w fun e w' => SaysBool e ∧ w' = w := by
  have Hn : Hid (ss.length = n) := hn
  have Hs : Hid (∀ s ∈ ss, s.length ≤ 9223372036854775807) := hs
  clear hn hs
  by_cases h0 : n ≤ 1048576
  · go_enter Try.func17, Try.ntmps17
    go_wp2
    go_loop [7, 8] (fun s i => ∃ (k : Nat) (x : Nat), k ≤ n ∧ i = .int .i64 k ∧ s = .int .i64 x ∧ x ≤ 1048576) (fun _ i => n - (intOf i).toNat)
    case atStart => exact ⟨0, n, by omega, rfl, by go_num, h0⟩
    case round =>
      obtain ⟨k, x, hk, rfl, rfl, hx⟩ := hrel
      by_cases hlt : k < n
      · obtain ⟨b, off, rfl, hb, hc⟩ := hS (by rw [Hn.out]; omega)
        obtain ⟨p, hp⟩ : ∃ p, p = ss.getD k [] := ⟨_, rfl⟩
        have hpl : p.length ≤ 9223372036854775807 := by rw [hp]; exact getD_le Hs.out k
        have hcx : w.cell? ⟨b, off + k, none⟩ = some (.string ⟨p.toArray⟩) := by rw [hp]; exact hc k (by rw [Hn.out]; exact hlt)
        clear hp hc
        by_cases hp1 : p.length ≤ 1048576
        · by_cases hp2 : x + p.length ≤ 1048576
          · go_wp2
            go_round
            case rel => exact ⟨k + 1, x + p.length, by omega, by go_num, by go_num, hp2⟩
            case measure => simp [intOf]; omega
          · go_wp2
            go_ret
            exact ⟨⟨_, rfl⟩, rfl⟩
        · go_wp2
          go_ret
          exact ⟨⟨_, rfl⟩, rfl⟩
      · go_wp2
        all_goals (go_ret; exact ⟨⟨_, rfl⟩, rfl⟩)
  · go_enter Try.func17, Try.ntmps17
    go_wp2
    go_ret
    exact ⟨⟨_, rfl⟩, rfl⟩

set_option maxHeartbeats 1000000 in
theorem bytes13_any (a : Option Addr) (n cap : Nat) (ss : List (List UInt8)) (t : List UInt8) (hn : ss.length = n) (hl : n ≤ 9223372036854775807) (hs : ∀ s ∈ ss, s.length ≤ 9223372036854775807) (ht : t.length ≤ 9223372036854775807) (w : World) (hS : SlS w a ss) :
    Calls Try.prog 13 #[.slice a n cap, .string ⟨t.toArray⟩] w fun e w' => SaysBool e ∧ w' = w := by
  have Hn : Hid (ss.length = n) := hn
  have Hs : Hid (∀ s ∈ ss, s.length ≤ 9223372036854775807) := hs
  clear hn hs
  by_cases h0 : n ≤ 1048576
  · go_enter Try.func13, Try.ntmps13
    go_wp2
    go_loop [5, 6] (fun s i => ∃ (k : Nat) (x : Nat), k ≤ n ∧ i = .int .i64 k ∧ s = .int .i64 x ∧ x ≤ 1048576) (fun _ i => n - (intOf i).toNat)
    case atStart => exact ⟨0, n, by omega, rfl, by go_num, h0⟩
    case round =>
      obtain ⟨k, x, hk, rfl, rfl, hx⟩ := hrel
      by_cases hlt : k < n
      · obtain ⟨b, off, rfl, hb, hc⟩ := hS (by rw [Hn.out]; omega)
        obtain ⟨p, hp⟩ : ∃ p, p = ss.getD k [] := ⟨_, rfl⟩
        have hpl : p.length ≤ 9223372036854775807 := by rw [hp]; exact getD_le Hs.out k
        have hcx : w.cell? ⟨b, off + k, none⟩ = some (.string ⟨p.toArray⟩) := by rw [hp]; exact hc k (by rw [Hn.out]; exact hlt)
        clear hp hc
        by_cases hp1 : p.length ≤ 1048576
        · by_cases hp2 : x + p.length ≤ 1048576
          · go_wp2
            go_round
            case rel => exact ⟨k + 1, x + p.length, by omega, by go_num, by go_num, hp2⟩
            case measure => simp [intOf]; omega
          · go_wp2
            go_ret
            exact ⟨⟨_, rfl⟩, rfl⟩
        · go_wp2
          go_ret
          exact ⟨⟨_, rfl⟩, rfl⟩
      · go_wp2
        all_goals (go_ret; exact ⟨⟨_, rfl⟩, rfl⟩)
  · go_enter Try.func13, Try.ntmps13
    go_wp2
    go_ret
    exact ⟨⟨_, rfl⟩, rfl⟩

end Go.Proofs.Qxb6600397a
