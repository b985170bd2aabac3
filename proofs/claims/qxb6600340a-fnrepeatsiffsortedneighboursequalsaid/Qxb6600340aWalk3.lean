/-
  The walk of 'FnRepeatsIffSortedNeighboursEqual' (function 3); 'zzBytes_..' (function 8).
-/
import Derived.Test.Qxb6600340aRepeats
import Derived.Test.Qxb6600340aMerge
import Derived.Test.Qxb6600340aCopy
namespace Go.Proofs.Qxb6600340a
open Go.RowKit Go.Maps

theorem bytes8_yes (a : Option Addr) (n cap : Nat) (h : n ≤ 1048576) (w : World) :
    Calls Try.prog 8 #[.slice a n cap] w fun e w' => e = .returned (.bool true) ∧ w' = w := by
  go_enter Try.func8, Try.ntmps8
  go_wp2
  go_ret
  exact ⟨rfl, rfl⟩
theorem bytes8_no (a : Option Addr) (n cap : Nat) (h : ¬ n ≤ 1048576) (w : World) :
    Calls Try.prog 8 #[.slice a n cap] w fun e w' => e = .returned (.bool false) ∧ w' = w := by
  go_enter Try.func8, Try.ntmps8
  go_wp2
  go_ret
  exact ⟨rfl, rfl⟩

theorem zzrepeats_n (a : Option Addr) (n cap : Nat) (zs : List Nat) (hn : zs.length = n) (hl : n ≤ 200000) (hz : ∀ z ∈ zs, z < 18446744073709551616) (w : World) (hs : SlU w a zs) :
    Calls Try.prog 10 #[.slice a n cap] w fun e w' => e = .returned (.bool (dupB zs)) ∧ Below w.heap.size w w' := by
  subst hn
  exact zzrepeats_any a cap zs hl hz w hs

set_option maxHeartbeats 1000000 in
theorem walk3 (a : Option Addr) (cap n : Nat) (zs : List Nat) (hn : zs.length = n) (hnil : a = none → n = 0 ∧ cap = 0) (hl : n ≤ 131072) (hz : ∀ z ∈ zs, z < 18446744073709551616) (w : World) (hs : SlU w a zs) :
    Calls Try.prog 3 #[.slice a n cap] w fun e w' => e = .returned (.bool true) ∧ Below w.heap.size w w' := by
  have Hz : Hid (∀ z ∈ zs, z < 18446744073709551616) := hz
  have Hlen : Hid (zs.length = n) := hn
  have Hnil : Hid (a = none → n = 0 ∧ cap = 0) := hnil
  clear hz hn hnil
  go_enter Try.func3, Try.ntmps3
  go_wp2_with fail
  refine (bytes8_yes a n cap (by omega) _).mono ?_
  rintro e w' ⟨rfl, hw⟩
  subst hw
  go_wp2_with fail
  refine (copyu_any a cap n zs Hlen.out Hnil.out (by omega) _ hs).mono ?_
  rintro e w1 ⟨⟨a1, c1, rfl, hs1⟩, hb1⟩
  go_wp2_with fail
  refine (zzrepeats_n a1 n c1 zs Hlen.out (by omega) Hz.out _ hs1).mono ?_
  rintro e w2 ⟨rfl, hb2⟩
  have hs2 := hs1.below hb2 (Nat.le_refl _)
  go_wp2_with fail
  refine (sort_any a1 c1 n zs Hlen.out (by omega) Hz.out _ hs2).mono ?_
  rintro e w3 ⟨⟨bA, A, rfl, hA, hperm, hrise⟩, hb3⟩
  have hB : Below w'.heap.size w' w3 := (hb1.trans (hb2.mono hb1.size)).trans (hb3.mono (Nat.le_trans hb1.size hb2.size))
  have HAl : Hid (A.length = n) := hperm.length_eq.trans Hlen.out
  obtain ⟨d, hd⟩ : ∃ d, d = dupB zs := ⟨_, rfl⟩
  have Hd : Hid (d = dupB A) := by rw [hd]; unfold dupB; congr 1; exact decide_eq_decide.2 hperm.symm.nodup_iff
  rw [← hd]
  clear hd hs2 hs1 hb1 hb2 hb3 hs Hnil
  go_wp2
  go_loopw [5, 6] (fun s5 i wr => ∃ k : Nat, s5 = .bool false ∧ 1 ≤ k ∧ k ≤ n + 1 ∧ i = .int .i64 k ∧ RowU wr bA A ∧ Below w'.heap.size w' wr ∧ Hid (∀ i, i + 1 < k → A.getD (i + 1) 0 ≠ A.getD i 0)) (fun _ i _ => n + 1 - (intOf i).toNat)
  case atStart => exact ⟨1, rfl, by omega, by omega, rfl, hA, hB, fun i hi => by omega⟩
  case round =>
    clear hA hB
    obtain ⟨k, rfl, hk1, hk2, rfl, hA, hB, HN⟩ := hrel
    by_cases hlt : k < n
    · obtain ⟨j, rfl⟩ : ∃ j, k = j + 1 := ⟨k - 1, by omega⟩
      have hc1 := hA.cell (j := j + 1) (by rw [HAl.out]; omega)
      have hc0 := hA.cell (j := j) (by rw [HAl.out]; omega)
      obtain ⟨x, hx⟩ : ∃ x, x = A.getD (j + 1) 0 := ⟨_, rfl⟩
      obtain ⟨y, hy⟩ : ∃ x, x = A.getD j 0 := ⟨_, rfl⟩
      rw [← hx] at hc1
      rw [← hy] at hc0
      have Hx : Hid (x = A.getD (j + 1) 0) := hx
      have Hy : Hid (y = A.getD j 0) := hy
      clear hx hy
      have t1 : (j : Int) + 1 < n := by omega
      have t0 : (j : Int) < n := by omega
      by_cases hxy : x = y
      · have hd1 : d = true := by rw [Hd.out]; exact dupB_true (not_nodup_pair (i := j) (by rw [HAl.out]; exact hlt) (by rw [← Hx.out, ← Hy.out, hxy]))
        have hq : ((x : Int) == (y : Int)) = true := by rw [hxy]; simp
        clear hxy Hd
        go_wp2
        go_quiet (fail)
        go_wp2
        go_ret
        exact ⟨ret_bool (by simp), below_drewN hB _⟩
      · have hq : ((x : Int) == (y : Int)) = false := by rw [beq_eq_false_iff_ne]; omega
        go_wp2
        go_quiet (fail)
        go_wp2
        go_roundw
        case rel =>
          refine ⟨j + 1 + 1, rfl, by omega, by omega, by go_num, hA.drewN _, below_drewN hB _, fun i hi => ?_⟩
          by_cases e : i = j
          · subst e; rw [← Hx.out, ← Hy.out]; exact hxy
          · exact HN.out i (by omega)
        case measure => simp [intOf]; omega
    · have hd0 : d = false := by
        rw [Hd.out]
        exact dupB_false (rise_nodup hrise (fun i hi => HN.out i (by rw [HAl.out] at hi; omega)))
      clear Hd
      go_wp2
      go_ret
      exact ⟨ret_bool (by simp), hB⟩
end Go.Proofs.Qxb6600340a
