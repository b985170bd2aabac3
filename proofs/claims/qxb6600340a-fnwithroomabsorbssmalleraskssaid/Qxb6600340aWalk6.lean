/-
  The walk of 'FnWithRoomAbsorbsSmallerAsks' (function 6); 'zzBytes_..' (function 19).
-/
import Derived.Test.Qxb6600340aWalk5
namespace Go.Proofs.Qxb6600340a
open Go.RowKit

theorem SlI.drewN {w : World} {a : Option Addr} {zs : List Int} (h : SlI w a zs) (n : Nat) : SlI (w.drewN n) a zs := h.below (below_drewN (Below.refl w.heap.size w) n) (Nat.le_refl _)
theorem SlU.drewN {w : World} {a : Option Addr} {zs : List Nat} (h : SlU w a zs) (n : Nat) : SlU (w.drewN n) a zs := h.below (below_drewN (Below.refl w.heap.size w) n) (Nat.le_refl _)

theorem bytes19_no (a0 a1 a2 : Option Addr) (l0 c0 l1 c1 l2 c2 : Nat) (x n mm : Int) (m0 : l0 ≤ 9223372036854775807) (m1 : l1 ≤ 9223372036854775807) (m2 : l2 ≤ 9223372036854775807) (h : ¬ l0 + l1 + l2 ≤ 1048576) (w : World) :
    Calls Try.prog 19 #[.slice a0 l0 c0, .slice a1 l1 c1, .slice a2 l2 c2, .int .i64 x, .int .i64 n, .int .i64 mm] w fun e w' => e = .returned (.bool false) ∧ w' = w := by
  go_enter Try.func19, Try.ntmps19
  go_wp2
  all_goals (go_ret; exact ⟨rfl, rfl⟩)
theorem bytes19_yes (a0 a1 a2 : Option Addr) (l0 c0 l1 c1 l2 c2 : Nat) (x n mm : Int) (h : l0 + l1 + l2 ≤ 1048576) (w : World) :
    Calls Try.prog 19 #[.slice a0 l0 c0, .slice a1 l1 c1, .slice a2 l2 c2, .int .i64 x, .int .i64 n, .int .i64 mm] w fun e w' => e = .returned (.bool true) ∧ w' = w := by
  go_enter Try.func19, Try.ntmps19
  go_wp2
  go_ret
  exact ⟨rfl, rfl⟩

set_option maxHeartbeats 1000000 in
theorem walk6_out (a0 a1 a2 : Option Addr) (l0 c0 l1 c1 l2 c2 : Nat) (x n mm : Int) (m0 : l0 ≤ 9223372036854775807) (m1 : l1 ≤ 9223372036854775807) (m2 : l2 ≤ 9223372036854775807) (h : ¬ (InBounds l0 l1 l2 x n ∧ mm ≤ n)) (w : World) :
    Calls Try.prog 6 #[.slice a0 l0 c0, .slice a1 l1 c1, .slice a2 l2 c2, .int .i64 x, .int .i64 n, .int .i64 mm] w fun e w' => e = .returned (.bool true) ∧ Below w.heap.size w w' := by
  by_cases hs : l0 + l1 + l2 ≤ 1048576
  · go_enter Try.func6, Try.ntmps6
    go_wp2_with (go_at_call 19; refine (bytes19_yes a0 a1 a2 l0 c0 l1 c1 l2 c2 x n mm hs _).mono ?_; rintro e w' ⟨rfl, hw⟩; subst hw)
    all_goals first
      | (go_ret; exact ⟨rfl, Below.refl _ _⟩)
      | (exfalso; apply h; refine ⟨⟨hs, ?_⟩, ?_⟩ <;> omega)
  · go_enter Try.func6, Try.ntmps6
    go_wp2_with (go_at_call 19; refine (bytes19_no a0 a1 a2 l0 c0 l1 c1 l2 c2 x n mm m0 m1 m2 hs _).mono ?_; rintro e w' ⟨rfl, hw⟩; subst hw)
    go_ret
    exact ⟨rfl, Below.refl _ _⟩

set_option maxHeartbeats 2000000 in
theorem walk6_in (a0 a1 a2 : Option Addr) (l0 c0 l1 c1 l2 c2 ex : Nat) (n mm : Int) (N D : List Int) (I : List Nat) (h : InBounds l0 l1 l2 ex n) (hmn : mm ≤ n) (w : World) (T : Three w a0 a1 a2 l0 c0 l1 c1 l2 c2 N D I) :
    Calls Try.prog 6 #[.slice a0 l0 c0, .slice a1 l1 c1, .slice a2 l2 c2, .int .i64 ex, .int .i64 n, .int .i64 mm] w fun e w' => e = .returned (.bool true) ∧ Below w.heap.size w w' := by
  obtain ⟨hs, h0, h1, h2, h3, h4, h5, h6⟩ := h
  obtain ⟨m, hm⟩ : ∃ m, min (min l0 l1) l2 = m := ⟨_, rfl⟩
  have Hm : Hid (min (min l0 l1) l2 = m) := hm
  have hmI : min (min (l0 : Int) l1) l2 = m := by omega
  have hmm : m ≤ 300000 := by omega
  have hb0 : l0 ≤ 300000 := by omega
  have hb1 : l1 ≤ 300000 := by omega
  have hb2 : l2 ≤ 200000 := by omega
  clear hm
  go_enter Try.func6, Try.ntmps6
  go_wp2_with fail
  refine (bytes19_yes a0 a1 a2 l0 c0 l1 c1 l2 c2 ex n mm hs _).mono ?_
  rintro e w' ⟨rfl, hw⟩
  subst hw
  go_wp2_with fail
  refine (copyi_any a0 c0 l0 N T.n0 T.z0 hb0 _ T.s0).mono ?_
  rintro e w1 ⟨⟨p0, d0, rfl, t0⟩, B1⟩
  go_wp2_with fail
  refine (copyi_any a1 c1 l1 D T.n1 T.z1 hb1 _ (T.s1.below B1 (Nat.le_refl _))).mono ?_
  rintro e w2 ⟨⟨p1, d1, rfl, t1⟩, B2⟩
  have t0' := t0.below B2 (Nat.le_refl _)
  go_wp2_with fail
  refine (copyu_any a2 c2 l2 I T.n2 T.z2 hb2 _ ((T.s2.below B1 (Nat.le_refl _)).below B2 (Nat.le_refl _))).mono ?_
  rintro e w3 ⟨⟨p2, d2, rfl, t2⟩, B3⟩
  have t0'' := t0'.below B3 (Nat.le_refl _)
  have t1' := t1.below B3 (Nat.le_refl _)
  go_wp2_with fail
  refine (keys_any p0 p1 p2 l0 d0 l1 d1 l2 d2 m ex N D I Hm.out hmm (by omega) T.n0 T.n1 T.n2 _ t0'' t1' t2).mono ?_
  rintro e w4 ⟨⟨rfl, L, hr, hL, hK⟩, B4⟩
  have HL : Hid (L.length = m + ex) := hL
  have u0 := t0''.below B4 (Nat.le_refl _)
  have u1 := t1'.below B4 (Nat.le_refl _)
  have u2 := t2.below B4 (Nat.le_refl _)
  have B04 : Below w'.heap.size w' w4 := ((B1.trans (B2.mono B1.size)).trans (B3.mono (Nat.le_trans B1.size B2.size))).trans (B4.mono (Nat.le_trans (Nat.le_trans B1.size B2.size) B3.size))
  clear t0 t1 t2 t0' t0'' t1' B1 B2 B3 hL
  have hblt := hr.lt
  go_wp2_with (go_at_call 16; refine (min3_any _ _ _ _).mono ?_; rintro e w5 ⟨rfl, hw⟩; subst hw)
  by_cases hn : n ≤ (m : Int) + ex
  · refine (zzWithRoom_has _ m (m + ex) n (by omega) _).mono ?_
    rintro e w6 ⟨rfl, hw⟩
    subst hw
    go_wp2_with fail
    refine (zzWithRoom_has _ m (m + ex) mm (by omega) _).mono ?_
    rintro e w6 ⟨rfl, hw⟩
    subst hw
    have Hfin : Hid (∀ nq, Calls Try.prog 18 #[.slice (some ⟨w3.heap.size, 0, none⟩) m (m + ex), .slice p0 l0 d0, .slice p1 l1 d1, .slice p2 l2 d2] (w6.drewN nq) fun e w' => e = .returned (.bool true) ∧ Below (w6.drewN nq).heap.size (w6.drewN nq) w') :=
      fun nq => holds_any _ m (m + ex) p0 p1 p2 l0 d0 l1 d1 l2 d2 N D I L Hm.out hmm T.n0 T.n1 T.n2 _ hK (hr.drewN nq) (u0.drewN nq) (u1.drewN nq) (u2.drewN nq)
    by_cases hm0 : 0 < m
    · have hmi : (0 : Int) < m := by omega
      have hpn := fun w b => neq_same w ⟨b, 0, none⟩
      go_wp2_with fail
      go_quiet (fail)
      go_wp2_with fail
      refine (Hfin.out _).mono ?_
      rintro e w7 ⟨rfl, B7⟩
      go_wp2
      go_ret
      exact ⟨rfl, (below_drewN B04 _).trans (B7.mono (below_drewN B04 _).size)⟩
    · have hd : decide ((0 : Int) < (m : Int)) = false := by simp; omega
      go_wp2_with fail
      go_quiet (fail)
      go_wp2_with fail
      refine (Hfin.out _).mono ?_
      rintro e w7 ⟨rfl, B7⟩
      go_wp2
      go_ret
      exact ⟨rfl, (below_drewN B04 _).trans (B7.mono (below_drewN B04 _).size)⟩
  · obtain ⟨q, rfl⟩ := Int.eq_ofNat_of_zero_le (show 0 ≤ n by omega)
    have hq1 : m + ex < q := by omega
    refine (zzWithRoom_grows _ m (m + ex) q L hq1 (by omega) (by omega) HL.out _ hr).mono ?_
    rintro e w6 ⟨⟨rfl, hr6⟩, B6⟩
    have v0 := u0.below B6 (Nat.le_refl _)
    have v1 := u1.below B6 (Nat.le_refl _)
    have v2 := u2.below B6 (Nat.le_refl _)
    have B06 := B04.trans (B6.mono B04.size)
    clear u0 u1 u2 hn
    go_wp2_with fail
    refine (zzWithRoom_has _ m (2 * q) mm (by omega) _).mono ?_
    rintro e w7 ⟨rfl, hw⟩
    subst hw
    have Hfin : Hid (∀ nq, Calls Try.prog 18 #[.slice (some ⟨w5.heap.size, 0, none⟩) m (2 * q), .slice p0 l0 d0, .slice p1 l1 d1, .slice p2 l2 d2] (w7.drewN nq) fun e w' => e = .returned (.bool true) ∧ Below (w7.drewN nq).heap.size (w7.drewN nq) w') :=
      fun nq => holds_any _ m (2 * q) p0 p1 p2 l0 d0 l1 d1 l2 d2 N D I _ Hm.out hmm T.n0 T.n1 T.n2 _ (keysAre_grown hK) (hr6.drewN nq) (v0.drewN nq) (v1.drewN nq) (v2.drewN nq)
    by_cases hm0 : 0 < m
    · have hmi : (0 : Int) < m := by omega
      have hpn := fun w b => neq_same w ⟨b, 0, none⟩
      go_wp2_with fail
      go_quiet (fail)
      go_wp2_with fail
      refine (Hfin.out _).mono ?_
      rintro e w8 ⟨rfl, B8⟩
      go_wp2
      go_ret
      exact ⟨rfl, (below_drewN B06 _).trans (B8.mono (below_drewN B06 _).size)⟩
    · have hd : decide ((0 : Int) < (m : Int)) = false := by simp; omega
      go_wp2_with fail
      go_quiet (fail)
      go_wp2_with fail
      refine (Hfin.out _).mono ?_
      rintro e w8 ⟨rfl, B8⟩
      go_wp2
      go_ret
      exact ⟨rfl, (below_drewN B06 _).trans (B8.mono (below_drewN B06 _).size)⟩

end Go.Proofs.Qxb6600340a
