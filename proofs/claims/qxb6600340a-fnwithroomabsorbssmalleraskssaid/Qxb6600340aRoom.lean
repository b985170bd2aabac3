/-
  'sagaB1HoldsArgs' (18), 'sagaB1Keys' (15), 'saga.withRoom' (24), 'saga.ZZWithRoom' (17).
-/
import Derived.Test.Qxb6600340aKeys
import Derived.Deep.DeepCutAuto
import Derived.Deep.RegionWith
import Derived.BigRegion
namespace Go.Proofs.Qxb6600340a
open Go.RowKit

/-- The first m keys of L are those of the arguments. -/
def KeysAre (L : List (Int × Int × Nat)) (N D : List Int) (I : List Nat) (m : Nat) : Prop :=
  m ≤ L.length ∧ ∀ k, k < m → L.getD k key0 = (N.getD k 0, D.getD k 0, I.getD k 0)

set_option maxHeartbeats 1000000 in
theorem holds_any (bk m c : Nat) (a0 a1 a2 : Option Addr) (l0 c0 l1 c1 l2 c2 : Nat) (N D : List Int) (I : List Nat) (L : List (Int × Int × Nat)) (hm : min (min l0 l1) l2 = m) (hmm : m ≤ 300000)
    (hN : N.length = l0) (hD : D.length = l1) (hI : I.length = l2) (w : World) (hK : KeysAre L N D I m) (hr : RowK w bk L) (s0 : SlI w a0 N) (s1 : SlI w a1 D) (s2 : SlU w a2 I) :
    Calls Try.prog 18 #[.slice (some ⟨bk, 0, none⟩) m c, .slice a0 l0 c0, .slice a1 l1 c1, .slice a2 l2 c2] w fun e w' => e = .returned (.bool true) ∧ Below w.heap.size w w' := by
  have Hm : Hid (min (min l0 l1) l2 = m) := hm
  have HN : Hid (N.length = l0) := hN
  have HD : Hid (D.length = l1) := hD
  have HI : Hid (I.length = l2) := hI
  have hmI : min (min (l0 : Int) l1) l2 = m := by omega
  have q0 : m ≤ l0 := by omega
  have q1 : m ≤ l1 := by omega
  have q2 : m ≤ l2 := by omega
  have hbk := hr.lt
  clear hm hN hD hI
  go_enter Try.func18, Try.ntmps18
  go_wp2_with (go_at_call 16; refine (min3_any _ _ _ _).mono ?_; rintro e w' ⟨rfl, hw⟩; subst hw)
  clear hmI
  go_loopw [10] (fun i wr => ∃ k : Nat, k ≤ m ∧ i = .int .i64 k ∧ Below w'.heap.size w' wr) (fun i _ => m - (intOf i).toNat)
  case atStart => exact ⟨0, by omega, rfl, Below.refl _ _⟩
  case round =>
    obtain ⟨k, hk, rfl, hB⟩ := hrel
    by_cases hlt : k < m
    · obtain ⟨b0, o0, rfl, hb0, hc0⟩ := s0 (by rw [HN.out]; omega)
      obtain ⟨b1, o1, rfl, hb1, hc1⟩ := s1 (by rw [HD.out]; omega)
      obtain ⟨b2, o2, rfl, hb2, hc2⟩ := s2 (by rw [HI.out]; omega)
      have hkey := hK.2 k hlt
      have hkL : k < L.length := Nat.lt_of_lt_of_le hlt hK.1
      obtain ⟨x, hx⟩ : ∃ x, x = N.getD k 0 := ⟨_, rfl⟩
      obtain ⟨y, hy⟩ : ∃ x, x = D.getD k 0 := ⟨_, rfl⟩
      obtain ⟨z, hz⟩ : ∃ x, x = I.getD k 0 := ⟨_, rfl⟩
      rw [← hx, ← hy, ← hz] at hkey
      have g0 := (hr.below hB hbk).cell0 hkL
      have g1 := (hr.below hB hbk).cell1 hkL
      have g2 := (hr.below hB hbk).cell2 hkL
      rw [hkey] at g0 g1 g2
      have e0 : wr.cell? ⟨b0, o0 + k, none⟩ = some (.int .i32 x) := by
        rw [hx]; exact (hB.cell (by exact hb0)).trans (hc0 k (by rw [HN.out]; omega))
      have e1 : wr.cell? ⟨b1, o1 + k, none⟩ = some (.int .i32 y) := by
        rw [hy]; exact (hB.cell (by exact hb1)).trans (hc1 k (by rw [HD.out]; omega))
      have e2 : wr.cell? ⟨b2, o2 + k, none⟩ = some (.int .u64 (z : Int)) := by
        rw [hz]; exact (hB.cell (by exact hb2)).trans (hc2 k (by rw [HI.out]; omega))
      clear hkey hx hy hz hc0 hc1 hc2
      have t0 : (k : Int) < l0 := by omega
      have t1 : (k : Int) < l1 := by omega
      have t2 : (k : Int) < l2 := by omega
      have hBs := hB.size
      have hb0' : b0 < wr.heap.size := by omega
      have hb1' : b1 < wr.heap.size := by omega
      have hb2' : b2 < wr.heap.size := by omega
      go_wp2_with fail
      refine (keyParts_any x y z wr).mono ?_
      rintro e w1 ⟨rfl, hbw⟩
      have f0 : w1.cell? ⟨b0, o0 + k, none⟩ = some (.int .i32 x) := (hbw.cell (by exact hb0')).trans e0
      have f1 : w1.cell? ⟨b1, o1 + k, none⟩ = some (.int .i32 y) := (hbw.cell (by exact hb1')).trans e1
      have f2 : w1.cell? ⟨b2, o2 + k, none⟩ = some (.int .u64 (z : Int)) := (hbw.cell (by exact hb2')).trans e2
      go_wp2
      go_roundw
      case rel => exact ⟨k + 1, by omega, by go_num, hB.trans (hbw.mono hBs)⟩
      case measure => simp [intOf]; omega
    · go_wp2
      go_ret
      exact ⟨rfl, hB⟩

theorem keys_step {L : List (Int × Int × Nat)} {N D : List Int} {I : List Nat} {k : Nat} {x y : Int} {z : Nat} (h : KeysAre L N D I k) (hk : k < L.length) (hx : x = N.getD k 0) (hy : y = D.getD k 0) (hz : z = I.getD k 0) : KeysAre (L.set k (x, y, z)) N D I (k + 1) := by
  refine ⟨by rw [List.length_set]; omega, fun j hj => ?_⟩
  rw [List.getD_eq_getElem?_getD, List.getElem?_set]
  by_cases e : k = j
  · subst e; simp [hk, hx, hy, hz]
  · rw [if_neg e, ← List.getD_eq_getElem?_getD]
    exact h.2 j (by omega)

set_option maxHeartbeats 4000000 in
theorem keys_any (a0 a1 a2 : Option Addr) (l0 c0 l1 c1 l2 c2 m ex : Nat) (N D : List Int) (I : List Nat) (hm : min (min l0 l1) l2 = m) (hmm : m ≤ 300000) (hex : ex ≤ 65536)
    (hN : N.length = l0) (hD : D.length = l1) (hI : I.length = l2) (w : World) (s0 : SlI w a0 N) (s1 : SlI w a1 D) (s2 : SlU w a2 I) :
    Calls Try.prog 15 #[.slice a0 l0 c0, .slice a1 l1 c1, .slice a2 l2 c2, .int .i64 ex] w fun e w' => (e = .returned (.slice (some ⟨w.heap.size, 0, none⟩) m (m + ex)) ∧ ∃ L, RowK w' w.heap.size L ∧ L.length = m + ex ∧ KeysAre L N D I m) ∧ Below w.heap.size w w' := by
  have Hm : Hid (min (min l0 l1) l2 = m) := hm
  have HN : Hid (N.length = l0) := hN
  have HD : Hid (D.length = l1) := hD
  have HI : Hid (I.length = l2) := hI
  have hmI : min (min (l0 : Int) l1) l2 = m := by omega
  have q0 : m ≤ l0 := by omega
  have q1 : m ≤ l1 := by omega
  have q2 : m ≤ l2 := by omega
  clear hm hN hD hI
  have hmk : ∀ w : World, (Instr.makeSlice 31 (.int .i64 (m : Int)) (.int .i64 ((m : Int) + (ex : Int)))).run Try.prog w = .ok (.slice (some ⟨w.heap.size, 0, none⟩) m (m + ex)) (w.alloc (.cells (keyCells (List.replicate (m + ex) key0)).toArray 38)) := fun w => make_keys m (m + ex) (by omega) (by omega) w
  go_enter Try.func15, Try.ntmps15
  go_wp2_with (go_at_call 16; refine (min3_any _ _ _ _).mono ?_; rintro e w' ⟨rfl, hw⟩; subst hw)
  clear hmI hmk
  go_loopg [11] m (fun g i wr => ∃ (k : Nat) (L : List (Int × Int × Nat)), k ≤ m ∧ i = .int .i64 k ∧ Hid (g = m - k) ∧ Hid (L.length = m + ex) ∧ RowK wr w'.heap.size L ∧ Hid (KeysAre L N D I k) ∧ Below w'.heap.size w' wr)
  case atStart => exact ⟨0, _, by omega, rfl, rfl, by simp [Hid], RowK.made _ _, ⟨by omega, fun k hk => by omega⟩, (Below.refl _ _).alloc (Nat.le_refl _) _⟩
  case round =>
    obtain ⟨k, L, hk, rfl, Hg, HL, hr, HK, hB⟩ := hrel
    by_cases hlt : k < m
    · obtain ⟨b0, o0, rfl, hb0, hc0⟩ := s0 (by rw [HN.out]; omega)
      obtain ⟨b1, o1, rfl, hb1, hc1⟩ := s1 (by rw [HD.out]; omega)
      obtain ⟨b2, o2, rfl, hb2, hc2⟩ := s2 (by rw [HI.out]; omega)
      have hkL : k < L.length := by rw [HL.out]; omega
      obtain ⟨x, hx⟩ : ∃ x, x = N.getD k 0 := ⟨_, rfl⟩
      obtain ⟨y, hy⟩ : ∃ x, x = D.getD k 0 := ⟨_, rfl⟩
      obtain ⟨z, hz⟩ : ∃ x, x = I.getD k 0 := ⟨_, rfl⟩
      have e0 : wr.cell? ⟨b0, o0 + k, none⟩ = some (.int .i32 x) := by
        rw [hx]; exact (hB.cell (by exact hb0)).trans (hc0 k (by rw [HN.out]; omega))
      have e1 : wr.cell? ⟨b1, o1 + k, none⟩ = some (.int .i32 y) := by
        rw [hy]; exact (hB.cell (by exact hb1)).trans (hc1 k (by rw [HD.out]; omega))
      have e2 : wr.cell? ⟨b2, o2 + k, none⟩ = some (.int .u64 (z : Int)) := by
        rw [hz]; exact (hB.cell (by exact hb2)).trans (hc2 k (by rw [HI.out]; omega))
      have Hx : Hid (x = N.getD k 0) := hx
      have Hy : Hid (y = D.getD k 0) := hy
      have Hz : Hid (z = I.getD k 0) := hz
      clear hx hy hz hc0 hc1 hc2
      have t0 : (k : Int) < l0 := by omega
      have t1 : (k : Int) < l1 := by omega
      have t2 : (k : Int) < l2 := by omega
      have t3 : (k : Int) < m := by omega
      have hBs := hB.size
      have hb0' : b0 < wr.heap.size := by omega
      have hb1' : b1 < wr.heap.size := by omega
      have hb2' : b2 < wr.heap.size := by omega
      have g0 := hr.cell0 hkL
      have g1 := hr.cell1 hkL
      have g2 := hr.cell2 hkL
      have f0 := hr.free (k * 3)
      have f1 := hr.free (k * 3 + 1)
      have f2 := hr.free (k * 3 + 2)
      have hbk := hr.lt
      go_upto_region 6 with fail
      go_region_with (go_at_call 22; refine (makeKey_any _ _ _ _).mono ?_; rintro e w1 ⟨rfl, rfl⟩)
      all_goals
        go_wp2
        go_roundg (m - (k + 1))
        case measure => rw [Hg.out]; omega
        case rel => exact ⟨k + 1, L.set k (x, y, z), by omega, by go_num, rfl, by unfold Hid; rw [List.length_set]; exact HL.out, ((hr.set k x y z).alloc _).drew, keys_step HK.out hkL Hx.out Hy.out Hz.out, ((((hB.setCell (Nat.le_refl _) _).setCell (Nat.le_refl _) _).setCell (Nat.le_refl _) _).alloc (by simpa using hBs) _).drew⟩
    · have Hkm : Hid (KeysAre L N D I m) := by rw [show m = k by omega]; exact HK.out
      go_wp2
      go_ret
      exact ⟨⟨rfl, L, hr, HL.out, Hkm.out⟩, hB⟩

end Go.Proofs.Qxb6600340a
