/-
  The walk of 'FnRepeatsProgressionDistinctThenDoubled' (function 4) and of 'sagaB1TrailingZeros' (function 12).
-/
import Derived.Test.Qxb6600340aRepeats
import Derived.Test.Qxb6600340aProg2
namespace Go.Proofs.Qxb6600340a
open Go.RowKit Go.Maps

/-- x has k trailing zero bits (64 where it is 0 or more than 63 were met). -/
def TZ (x k : Nat) : Prop := k ≤ 64 ∧ ∃ m, x = m * 2 ^ k ∧ (k < 64 → m % 2 = 1)

set_option maxHeartbeats 400000 in
theorem tz_any (x : Nat) (hx : x < 18446744073709551616) (w : World) :
    Calls Try.prog 12 #[.int .u64 x] w fun e w' => (∃ k : Nat, e = .returned (.int .i64 k) ∧ TZ x k) ∧ w' = w := by
  go_enter Try.func12, Try.ntmps12
  go_wp2
  go_loop [0, 3] (fun a i => ∃ k m : Nat, k ≤ 64 ∧ x = m * 2 ^ k ∧ m ≤ x ∧ i = .int .i64 k ∧ a = .int .u64 m) (fun _ i => 64 - (intOf i).toNat)
  case atStart => exact ⟨0, x, by omega, by simp, by omega, rfl, rfl⟩
  case round =>
    obtain ⟨k, m, hk, hm, hmx, rfl, rfl⟩ := hrel
    have Hm : Hid (x = m * 2 ^ k) := hm
    have Ha : Hid (bits BinOp.and IntKind.u64 (↑m) 1 = (m : Int) % 2) := and_one_u64 m (by omega) (by omega)
    clear hm
    go_wp2
    · have ht : (bits BinOp.and IntKind.u64 (↑m) 1 == 0) = true := by assumption
      rw [Ha.out] at ht
      have ht2 : m % 2 = 0 := by simp at ht; omega
      go_round
      case rel =>
        refine ⟨k + 1, m / 2, by omega, ?_, by omega, by go_num, by go_num⟩
        rw [Hm.out, Nat.pow_succ, ← Nat.mul_assoc]
        have : m = m / 2 * 2 := by omega
        rw [Nat.mul_right_comm, ← this]
      case measure => simp [intOf]; omega
    · have ht : (bits BinOp.and IntKind.u64 (↑m) 1 == 0) = false := by assumption
      rw [Ha.out] at ht
      have ht2 : m % 2 = 1 := by simp at ht; omega
      go_ret
      exact ⟨⟨k, rfl, hk, m, Hm.out, fun _ => ht2⟩, rfl⟩
    · go_ret
      exact ⟨⟨k, rfl, hk, m, Hm.out, fun _ => by omega⟩, rfl⟩

theorem tmod_gt (a : Int) (c : Nat) (h : 0 < c) : -(c : Int) < a.tmod c := by
  rw [Int.tmod_eq_emod]
  have := Int.emod_nonneg a (show (c : Int) ≠ 0 by omega)
  have := Int.emod_lt_of_pos a (show (0 : Int) < c by omega)
  split <;> omega
theorem tmod_lt (a : Int) (c : Nat) (h : 0 < c) : a.tmod c < (c : Int) := Int.tmod_lt_of_pos a (by omega)

theorem zzrepeats_n (a : Option Addr) (n cap : Nat) (zs : List Nat) (hn : zs.length = n) (hl : n ≤ 200000) (hz : ∀ z ∈ zs, z < 18446744073709551616) (w : World) (hs : SlU w a zs) :
    Calls Try.prog 10 #[.slice a n cap] w fun e w' => e = .returned (.bool (dupB zs)) ∧ Below w.heap.size w w' := by
  subst hn
  exact zzrepeats_any a cap zs hl hz w hs

set_option maxHeartbeats 1000000 in
theorem walk4 (base stride c : Nat) (at_ : Int) (h0 : base < 18446744073709551616) (h1 : stride < 18446744073709551616) (hc1 : 1 ≤ c) (hc2 : c ≤ 65536) (hs : 0 < stride) (w : World) :
    Calls Try.prog 4 #[.int .u64 base, .int .u64 stride, .int .i64 c, .int .i64 at_] w fun e w' => e = .returned (.bool true) ∧ Below w.heap.size w w' := by
  have hmk : ∀ w : World, (Instr.makeSlice 22 (.int .i64 ((c : Int) + 1)) (.int .i64 ((c : Int) + 1))).run Try.prog w = .ok (.slice (some ⟨w.heap.size, 0, none⟩) (c + 1) (c + 1)) (w.alloc (.cells (u64s (List.replicate (c + 1) 0)) 25)) := fun w => make_u64 (c + 1) (by omega) .i64 w
  go_enter Try.func4, Try.ntmps4
  go_wp2_with (go_at_call 12; refine (tz_any stride h1 _).mono ?_; rintro e w' ⟨⟨tz, rfl, htz⟩, rfl⟩)
  · go_ret
    exact ⟨rfl, Below.refl _ _⟩
  · have htz48 : ((stride : Int) == 0) = false ∧ (tz : Int) ≤ 48 := by assumption
    obtain ⟨_, om, hso, hodd⟩ := htz
    have HP : Hid (progL base stride c).Nodup := prog_nodup base stride tz om c hso (by omega) (hodd (by omega)) hc2
    clear hso hodd hmk htz48
    go_loopw [10, 11] (fun v i wr => ∃ (k : Nat) (L : List Nat), k ≤ c ∧ i = .int .i64 k ∧ v = .int .u64 ((base + k * stride) % M64 : Nat) ∧ L.length = c + 1 ∧ RowU wr w'.heap.size L ∧ L.take k = progL base stride k ∧ Below w'.heap.size w' wr) (fun _ i _ => c - (intOf i).toNat)
    case atStart => exact ⟨0, _, by omega, rfl, by simp [Nat.mod_eq_of_lt (show base < M64 from h0)], by simp, RowU.made _ _, by simp [progL], (Below.refl _ _).alloc (Nat.le_refl _) _⟩
    case round =>
      obtain ⟨k, L, hk, rfl, rfl, hL, hrow, htk, hB⟩ := hrel
      have HL : Hid (L.length = c + 1) := hL
      have Htk : Hid (L.take k = progL base stride k) := htk
      clear hL htk
      by_cases hlt : k < c
      · obtain ⟨x, hx⟩ : ∃ x, x = (base + k * stride) % M64 := ⟨_, rfl⟩
        have hx64 : x < 18446744073709551616 := by rw [hx]; exact Nat.mod_lt _ (by decide)
        have Hx : Hid (x = (base + k * stride) % M64) := hx
        rw [← hx]
        clear hx
        have hc0 := hrow.cell (j := k) (by rw [HL.out]; omega)
        have hf0 := hrow.free k
        have Hrow := hrow
        have hadd : IntKind.u64.wrap ((x : Int) + (stride : Int)) = (((base + (k + 1) * stride) % M64 : Nat) : Int) := by
          rw [← step_mod, ← Hx.out, IntKind.wrap_u64]; unfold M64; omega
        go_wp2
        go_roundw
        case rel =>
          refine ⟨k + 1, L.set k x, by omega, by go_num, rfl, by rw [List.length_set]; exact HL.out, Hrow.set _ _, ?_, hB.setCell (Nat.le_refl _) _⟩
          rw [take_set_snoc _ _ _ (by rw [HL.out]; omega), Htk.out, progL_succ, Hx.out]
        case measure => simp [intOf]; omega
      · have hke : k = c := by omega
        have HT : Hid (L.take c = progL base stride c) := by rw [← hke]; exact Htk.out
        have hd : dupB (L.take c) = false := dupB_false (by rw [HT.out]; exact HP.out)
        have Hlt : Hid (∀ z ∈ L.take c, z < 18446744073709551616) := by rw [HT.out]; exact progL_lt _ _ _
        have hsl : SlU wr (some ⟨w'.heap.size, 0, none⟩) (L.take c) := hrow.slu.take c
        go_wp2_with fail
        refine (zzrepeats_n _ c (c + 1) (L.take c) (by rw [List.length_take, HL.out]; omega) (by omega) Hlt.out wr hsl).mono ?_
        rintro e w1 ⟨rfl, hb1⟩
        rw [hd]
        have hrow1 : RowU w1 w'.heap.size L := hrow.below hb1 hrow.lt
        have hB1 : Below w'.heap.size w' w1 := hB.trans (hb1.mono hB.size)
        clear hd hsl
        have hfin : ∀ i : Nat, i < c → dupB (L.set c (L.getD i 0)) = true := fun i hi => dupB_true (not_nodup_set L c i HL.out hi)
        have Hfin : Hid (∀ i : Nat, i < c → dupB (L.set c (L.getD i 0)) = true) := hfin
        have Hlt2 : Hid (∀ i : Nat, i < c → ∀ z ∈ L.set c (L.getD i 0), z < 18446744073709551616) := by
          intro i hi z hz
          have hLi : L.getD i 0 < 18446744073709551616 := by
            have e : L.getD i 0 = (L.take c).getD i 0 := by simp [List.getD_eq_getElem?_getD, hi]
            rw [e]; exact getD_lt Hlt.out i
          rcases List.mem_iff_getElem.1 hz with ⟨j, hj, rfl⟩
          have hj2 : j < c + 1 := by rw [List.length_set, HL.out] at hj; exact hj
          by_cases e : c = j
          · subst e; rw [List.getElem_set_self]; exact hLi
          · rw [List.getElem_set_ne e]
            apply Hlt.out
            rw [List.mem_iff_getElem]
            exact ⟨j, by rw [List.length_take, HL.out]; omega, by rw [List.getElem_take]⟩
        clear hfin
        have hfree := hrow1.free c
        have hcc := hrow1.cell (j := c) (by rw [HL.out]; omega)
        have hr1 := tmod_gt at_ c (by omega)
        have hr2 := tmod_lt at_ c (by omega)
        by_cases hneg : 0 ≤ at_.tmod c
        · obtain ⟨i, hi⟩ := Int.eq_ofNat_of_zero_le hneg
          rw [hi] at hr1 hr2 hneg
          have hic : i < c := by omega
          have hci := hrow1.cell (j := i) (by rw [HL.out]; omega)
          obtain ⟨x, hx⟩ : ∃ x, x = L.getD i 0 := ⟨_, rfl⟩
          rw [← hx] at hci
          have Hx : Hid (x = L.getD i 0) := hx
          clear hx
          go_wp2_with fail
          refine (zzrepeats_n _ (c + 1) (c + 1) (L.set c x) (by rw [List.length_set, HL.out]) (by omega) (by rw [Hx.out]; exact Hlt2.out i hic) _ (by exact (hrow1.set c x).slu)).mono ?_
          rintro e w2 ⟨rfl, hb2⟩
          have hd2 : dupB (L.set c x) = true := by rw [Hx.out]; exact Hfin.out i hic
          go_wp2
          go_ret
          exact ⟨rfl, (hB1.setCell (Nat.le_refl _) _).trans (hb2.mono (by simp; exact hB1.size))⟩
        · obtain ⟨i, hi⟩ : ∃ i : Nat, at_.tmod c = (i : Int) - c := ⟨(at_.tmod c + c).toNat, by omega⟩
          rw [hi] at hr1 hr2 hneg
          have hic : i < c := by omega
          have hci := hrow1.cell (j := i) (by rw [HL.out]; omega)
          obtain ⟨x, hx⟩ : ∃ x, x = L.getD i 0 := ⟨_, rfl⟩
          rw [← hx] at hci
          have Hx : Hid (x = L.getD i 0) := hx
          clear hx
          go_wp2_with fail
          refine (zzrepeats_n _ (c + 1) (c + 1) (L.set c x) (by rw [List.length_set, HL.out]) (by omega) (by rw [Hx.out]; exact Hlt2.out i hic) _ (by exact (hrow1.set c x).slu)).mono ?_
          rintro e w2 ⟨rfl, hb2⟩
          have hd2 : dupB (L.set c x) = true := by rw [Hx.out]; exact Hfin.out i hic
          go_wp2
          go_ret
          exact ⟨rfl, (hB1.setCell (Nat.le_refl _) _).trans (hb2.mono (by simp; exact hB1.size))⟩
end Go.Proofs.Qxb6600340a
