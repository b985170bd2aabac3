/-
  The walk of 'FnWithRoomCaseTable' (function 5); 'zzBytes_..' (function 13).
-/
import Derived.Test.Qxb6600340aRoom2
import Derived.LaidEqlPtr
namespace Go.Proofs.Qxb6600340a
open Go.RowKit

theorem neq_same (w : World) (a : Addr) : (binOp .neq 36 (.pointer (some a)) (.pointer (some a))).run Try.prog w = .ok (.bool false) w := by
  obtain ⟨i0, hi, _⟩ := info_parts Try.info38
  have h : ∀ d : Nat, (Op.equalIn (d + 1) 36 (.pointer (some a)) (.pointer (some a))).run Try.prog w = .ok true w := fun d => by
    simp [Op.equalIn, run_underlying Try.underlying36, sizeOf, typeInfo, hi, run_sameAddr_same]
  simp only [binOp]
  simp [Op.equal, Op.maxDepth, h 9999]

theorem eql_other {w : World} {b b' : Nat} {L L' : List (Int × Int × Nat)} (h : RowK w b L) (h' : RowK w b' L') (hne : b ≠ b') :
    (binOp .eql 36 (.pointer (some ⟨b, 0, none⟩)) (.pointer (some ⟨b', 0, none⟩))).run Try.prog w = .ok (.bool false) w := by
  obtain ⟨i0, hi, hz0, hz1, hz2⟩ := info_parts Try.info38
  exact run_eql_ptr_other w Try.underlying36 hi (by omega) (fun e => hne (congrArg Addr.block e)) h h'

theorem bytes13_no (a0 a1 a2 : Option Addr) (l0 c0 l1 c1 l2 c2 : Nat) (x n : Int) (m0 : l0 ≤ 9223372036854775807) (m1 : l1 ≤ 9223372036854775807) (m2 : l2 ≤ 9223372036854775807) (h : ¬ l0 + l1 + l2 ≤ 1048576) (w : World) :
    Calls Try.prog 13 #[.slice a0 l0 c0, .slice a1 l1 c1, .slice a2 l2 c2, .int .i64 x, .int .i64 n] w fun e w' => e = .returned (.bool false) ∧ w' = w := by
  go_enter Try.func13, Try.ntmps13
  go_wp2
  all_goals (go_ret; exact ⟨rfl, rfl⟩)
theorem bytes13_yes (a0 a1 a2 : Option Addr) (l0 c0 l1 c1 l2 c2 : Nat) (x n : Int) (h : l0 + l1 + l2 ≤ 1048576) (w : World) :
    Calls Try.prog 13 #[.slice a0 l0 c0, .slice a1 l1 c1, .slice a2 l2 c2, .int .i64 x, .int .i64 n] w fun e w' => e = .returned (.bool true) ∧ w' = w := by
  go_enter Try.func13, Try.ntmps13
  go_wp2
  go_ret
  exact ⟨rfl, rfl⟩

/-- All bounds are met. -/
def InBounds (l0 l1 l2 : Nat) (x n : Int) : Prop := l0 + l1 + l2 ≤ 1048576 ∧ l0 ≤ 262144 ∧ l1 ≤ 262144 ∧ l2 ≤ 131072 ∧ 4 * l0 + 4 * l1 + 8 * l2 ≤ 1048576 ∧ 0 ≤ x ∧ x ≤ 65536 ∧ n ≤ 65536

set_option maxHeartbeats 1000000 in
theorem walk5_out (a0 a1 a2 : Option Addr) (l0 c0 l1 c1 l2 c2 : Nat) (x n : Int) (m0 : l0 ≤ 9223372036854775807) (m1 : l1 ≤ 9223372036854775807) (m2 : l2 ≤ 9223372036854775807) (h : ¬ InBounds l0 l1 l2 x n) (w : World) :
    Calls Try.prog 5 #[.slice a0 l0 c0, .slice a1 l1 c1, .slice a2 l2 c2, .int .i64 x, .int .i64 n] w fun e w' => e = .returned (.bool true) ∧ Below w.heap.size w w' := by
  by_cases hs : l0 + l1 + l2 ≤ 1048576
  · go_enter Try.func5, Try.ntmps5
    go_wp2_with (go_at_call 13; refine (bytes13_yes a0 a1 a2 l0 c0 l1 c1 l2 c2 x n hs _).mono ?_; rintro e w' ⟨rfl, hw⟩; subst hw)
    all_goals first
      | (go_ret; exact ⟨rfl, Below.refl _ _⟩)
      | (exfalso; apply h; refine ⟨hs, ?_⟩; omega)
  · go_enter Try.func5, Try.ntmps5
    go_wp2_with (go_at_call 13; refine (bytes13_no a0 a1 a2 l0 c0 l1 c1 l2 c2 x n m0 m1 m2 hs _).mono ?_; rintro e w' ⟨rfl, hw⟩; subst hw)
    go_ret
    exact ⟨rfl, Below.refl _ _⟩

/-- What is known of the three slices. -/
structure Three (w : World) (a0 a1 a2 : Option Addr) (l0 c0 l1 c1 l2 c2 : Nat) (N D : List Int) (I : List Nat) : Prop where
  n0 : N.length = l0
  n1 : D.length = l1
  n2 : I.length = l2
  z0 : a0 = none → l0 = 0 ∧ c0 = 0
  z1 : a1 = none → l1 = 0 ∧ c1 = 0
  z2 : a2 = none → l2 = 0 ∧ c2 = 0
  s0 : SlI w a0 N
  s1 : SlI w a1 D
  s2 : SlU w a2 I

set_option maxHeartbeats 2000000 in
theorem walk5_in (a0 a1 a2 : Option Addr) (l0 c0 l1 c1 l2 c2 ex : Nat) (n : Int) (N D : List Int) (I : List Nat) (h : InBounds l0 l1 l2 ex n) (w : World) (T : Three w a0 a1 a2 l0 c0 l1 c1 l2 c2 N D I) :
    Calls Try.prog 5 #[.slice a0 l0 c0, .slice a1 l1 c1, .slice a2 l2 c2, .int .i64 ex, .int .i64 n] w fun e w' => e = .returned (.bool true) ∧ Below w.heap.size w w' := by
  obtain ⟨hs, h0, h1, h2, h3, h4, h5, h6⟩ := h
  obtain ⟨m, hm⟩ : ∃ m, min (min l0 l1) l2 = m := ⟨_, rfl⟩
  have Hm : Hid (min (min l0 l1) l2 = m) := hm
  have hmI : min (min (l0 : Int) l1) l2 = m := by omega
  have hmm : m ≤ 300000 := by omega
  have hb0 : l0 ≤ 300000 := by omega
  have hb1 : l1 ≤ 300000 := by omega
  have hb2 : l2 ≤ 200000 := by omega
  clear hm
  go_enter Try.func5, Try.ntmps5
  go_wp2_with fail
  refine (bytes13_yes a0 a1 a2 l0 c0 l1 c1 l2 c2 ex n hs _).mono ?_
  rintro e w' ⟨rfl, hw⟩
  subst hw
  go_wp2_with fail
  refine (copyi_any a0 c0 l0 N T.n0 T.z0 hb0 _ T.s0).mono ?_
  rintro e w1 ⟨⟨p0, d0, rfl, t0⟩, B1⟩
  go_wp2_with fail
  refine (copyi_any a1 c1 l1 D T.n1 T.z1 hb1 _ (T.s1.below B1 (Nat.le_refl _))).mono ?_
  rintro e w2 ⟨⟨p1, d1, rfl, t1⟩, B2⟩
  have t0' := t0.below B2 (Nat.le_refl _)
  go_wp2_with fail
  refine (copyu_any a2 c2 l2 I T.n2 T.z2 hb2 _ ((T.s2.below B1 (Nat.le_refl _)).below B2 (Nat.le_refl _))).mono ?_
  rintro e w3 ⟨⟨p2, d2, rfl, t2⟩, B3⟩
  have t0'' := t0'.below B3 (Nat.le_refl _)
  have t1' := t1.below B3 (Nat.le_refl _)
  go_wp2_with fail
  refine (keys_any p0 p1 p2 l0 d0 l1 d1 l2 d2 m ex N D I Hm.out hmm (by omega) T.n0 T.n1 T.n2 _ t0'' t1' t2).mono ?_
  rintro e w4 ⟨⟨rfl, L, hr, hL, hK⟩, B4⟩
  have HL : Hid (L.length = m + ex) := hL
  have u0 := t0''.below B4 (Nat.le_refl _)
  have u1 := t1'.below B4 (Nat.le_refl _)
  have u2 := t2.below B4 (Nat.le_refl _)
  have B04 : Below w'.heap.size w' w4 := ((B1.trans (B2.mono B1.size)).trans (B3.mono (Nat.le_trans B1.size B2.size))).trans (B4.mono (Nat.le_trans (Nat.le_trans B1.size B2.size) B3.size))
  clear t0 t1 t2 t0' t0'' t1' B1 B2 B3 hL
  have hblt := hr.lt
  go_wp2_with (go_at_call 16; refine (min3_any _ _ _ _).mono ?_; rintro e w5 ⟨rfl, hw⟩; subst hw)
  by_cases hn : n ≤ (m : Int) + ex
  · refine (zzWithRoom_has _ m (m + ex) n (by omega) _).mono ?_
    rintro e w6 ⟨rfl, hw⟩
    subst hw
    go_wp2_with fail
    refine (holds_any _ m (m + ex) p0 p1 p2 l0 d0 l1 d1 l2 d2 N D I L Hm.out hmm T.n0 T.n1 T.n2 _ hK hr u0 u1 u2).mono ?_
    rintro e w7 ⟨rfl, B7⟩
    by_cases hm0 : 0 < m
    · have hmi : (0 : Int) < m := by omega
      have hpn := fun w b => neq_same w ⟨b, 0, none⟩
      go_wp2
      go_quiet (fail)
      go_wp2
      go_ret
      exact ⟨rfl, below_drewN (B04.trans (B7.mono B04.size)) _⟩
    · have hd : decide ((0 : Int) < (m : Int)) = false := by simp; omega
      go_wp2
      go_quiet (fail)
      go_wp2
      go_ret
      exact ⟨rfl, below_drewN (B04.trans (B7.mono B04.size)) _⟩
  · obtain ⟨q, rfl⟩ := Int.eq_ofNat_of_zero_le (show 0 ≤ n by omega)
    have hq1 : m + ex < q := by omega
    refine (zzWithRoom_grows _ m (m + ex) q L hq1 (by omega) (by omega) HL.out _ hr).mono ?_
    rintro e w6 ⟨⟨rfl, hr6⟩, B6⟩
    have v0 := u0.below B6 (Nat.le_refl _)
    have v1 := u1.below B6 (Nat.le_refl _)
    have v2 := u2.below B6 (Nat.le_refl _)
    clear u0 u1 u2 hn
    go_wp2_with fail
    refine (holds_any _ m (2 * q) p0 p1 p2 l0 d0 l1 d1 l2 d2 N D I _ Hm.out hmm T.n0 T.n1 T.n2 _ (keysAre_grown hK) hr6 v0 v1 v2).mono ?_
    rintro e w7 ⟨rfl, B7⟩
    by_cases hm0 : 0 < m
    · have hmi : (0 : Int) < m := by omega
      have hrA := (hr.below B6 hblt).below B7 (Nat.lt_of_lt_of_le hblt B6.size)
      have hrB := hr6.below B7 hr6.lt
      have hpe := fun nq => eql_other (hrB.drewN nq) (hrA.drewN nq) (Nat.ne_of_gt hblt)
      go_wp2
      go_quiet (fail)
      go_wp2
      go_ret
      exact ⟨rfl, below_drewN ((B04.trans (B6.mono B04.size)).trans (B7.mono (Nat.le_trans B04.size B6.size))) _⟩
    · have hd : decide ((0 : Int) < (m : Int)) = false := by simp; omega
      go_wp2
      go_quiet (fail)
      go_wp2
      go_ret
      exact ⟨rfl, below_drewN ((B04.trans (B6.mono B04.size)).trans (B7.mono (Nat.le_trans B04.size B6.size))) _⟩
end Go.Proofs.Qxb6600340a
