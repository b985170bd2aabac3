/-
  'saga.repeats' (function 23) and 'saga.ZZRepeats' (function 10): they answer whether some value stands twice.
-/
import Derived.Test.Qxb6600340aMem
import Derived.RegionTactic
import Derived.Deep.DeepCutAuto
namespace Go.Proofs.Qxb6600340a
open Go.RowKit Go.Maps

/-- Does some value stand twice? -/
def dupB (zs : List Nat) : Bool := !decide zs.Nodup
theorem dupB_false {zs : List Nat} (h : zs.Nodup) : dupB zs = false := by simp [dupB, h]
theorem dupB_true {zs : List Nat} (h : ¬ zs.Nodup) : dupB zs = true := by simp [dupB, h]

theorem wrap_bit (v : Nat) : IntKind.u64.wrap (2 ^ (v % 64)) = ((2 ^ (v % 64) : Nat) : Int) := by
  have h := bit_lt v
  have e : (2 : Int) ^ (v % 64) = ((2 ^ (v % 64) : Nat) : Int) := by simp
  rw [e]
  generalize 2 ^ (v % 64) = x at h
  rw [IntKind.wrap_u64]
  omega

theorem test_bit (m v : Nat) (h : m < 18446744073709551616) : (bits BinOp.and IntKind.u64 (m : Int) ((2 ^ (v % 64) : Nat) : Int) != 0) = m.testBit (v % 64) := by
  rw [bits_and_u64_nat m _ h (bit_lt v)]
  have := and_bit m (v % 64)
  cases hb : m.testBit (v % 64) with
  | true => rw [hb] at this; simp only [iff_true] at this; rw [bne_iff_ne]; omega
  | false => rw [hb] at this; simp only [Bool.false_eq_true, iff_false, Decidable.not_not] at this; rw [this]; rfl

theorem test_bit0 (m v : Nat) (h : m < 18446744073709551616) : (bits BinOp.and IntKind.u64 (m : Int) ((2 ^ (v % 64) : Nat) : Int) == 0) = !m.testBit (v % 64) := by
  rw [← test_bit m v h, bne, Bool.not_not]

theorem seen_start (w : World) (size : Nat) (zs T : List Nat) : SeenIs (w.alloc (.map #[] 0)) w.heap.size 0 (seenB size zs T 0) := by
  have h := SeenIs.made w
  have e : (fun _ => false) = seenB size zs T 0 := by funext v; simp [seenB]
  rw [e] at h; exact h

section
variable (w : World) (x y : List Nat)
theorem two_first : RowU ((w.alloc (.cells (u64s x) 25)).alloc (.cells (u64s y) 25)) w.heap.size x := (RowU.made w x).alloc _
theorem two_second : RowU ((w.alloc (.cells (u64s x) 25)).alloc (.cells (u64s y) 25)) (w.heap.size + 1) y := by
  have := RowU.made (w.alloc (.cells (u64s x) 25)) y
  simpa using this
theorem two_below : Below w.heap.size w ((w.alloc (.cells (u64s x) 25)).alloc (.cells (u64s y) 25)) := ((Below.refl _ _).alloc (Nat.le_refl _) _).alloc (by simp) _
end

theorem ret_bool {a b : Bool} (h : a = b) : Ending.returned (.bool a) = .returned (.bool b) := by rw [h]

set_option maxHeartbeats 1000000 in
theorem repeats_any (a : Option Addr) (cap : Nat) (zs : List Nat) (hl : zs.length ≤ 200000) (hz : ∀ z ∈ zs, z < 18446744073709551616) (w : World) (hs : SlU w a zs) :
    Calls Try.prog 23 #[.slice a zs.length cap] w fun e w' => e = .returned (.bool (dupB zs)) ∧ Below w.heap.size w w' := by
  have Hz : Hid (∀ z ∈ zs, z < 18446744073709551616) := hz
  clear hz
  obtain ⟨len, hlen⟩ : ∃ n, n = zs.length := ⟨_, rfl⟩
  rw [← hlen] at hl ⊢
  have Hlen : Hid (len = zs.length) := hlen
  clear hlen
  have hmm := @run_makeMap Try.prog
  go_enter Try.func23, Try.ntmps23
  go_wp2
  go_loop [3] (fun s => ∃ q : Nat, 1 ≤ q ∧ q ≤ len + 1 ∧ s = .int .u64 (64 * q : Nat)) (fun s => 16 * len - (intOf s).toNat)
  case atStart => exact ⟨1, by omega, by omega, rfl⟩
  case round =>
    obtain ⟨q, hq1, hq2, rfl⟩ := hrel
    go_wp2
    · have hlt : 64 * (q : Int) < 16 * (len : Int) := by assumption
      go_round
      case rel => exact ⟨2 * q, by omega, by omega, by go_num⟩
      case measure => simp [intOf]; omega
    · have hmk : ∀ w : World, (Instr.makeSlice 22 (.int .u64 ((q : Nat) : Int)) (.int .u64 ((q : Nat) : Int))).run Try.prog w = .ok (.slice (some ⟨w.heap.size, 0, none⟩) q q) (w.alloc (.cells (u64s (List.replicate q 0)) 25)) := fun w => make_u64 q (by omega) .u64 w
      have hdiv : (64 * (q : Int)) / 64 = (q : Int) := by omega
      go_cut [4, 5] (fun s4 s5 wr => ∃ bm bt : Nat, bm ≠ bt ∧ w.heap.size ≤ bm ∧ w.heap.size ≤ bt ∧ s4 = .slice (some ⟨bm, 0, none⟩) q q ∧ s5 = .slice (some ⟨bt, 0, none⟩) q q ∧
        RowU wr bm (List.replicate q 0) ∧ RowU wr bt (List.replicate q 0) ∧ Below w.heap.size w wr)
      case first =>
        go_region
        all_goals (go_wp2_with fail; go_meet)
        case rel => exact ⟨_, _, by omega, by omega, by omega, rfl, rfl, two_first _ _ _, two_second _ _ _, (two_below _ _ _).drew⟩
        case rel => exact ⟨_, _, by omega, by omega, by omega, rfl, rfl, two_second _ _ _, two_first _ _ _, (two_below _ _ _).drew⟩
      case rest =>
        obtain ⟨bm, bt, hmt, hbm, hbt, rfl, rfl, hM, hT, hB⟩ := hcut
        clear hmk hdiv
        go_wp2
        go_loopw [29] (fun i wr => ∃ (k : Nat) (M T : List Nat), k ≤ len ∧ i = .int .i64 k ∧ M.length = q ∧ T.length = q ∧ RowU wr bm M ∧ RowU wr bt T ∧ Below w.heap.size w wr ∧ Marks (64 * q) (zs.take k) M T) (fun i _ => len - (intOf i).toNat)
        case atStart => exact ⟨0, _, _, by omega, rfl, by simp, by simp, hM, hT, hB, by rw [List.take_zero]; exact marks_nil _ _⟩
        case round =>
          obtain ⟨k, M, T, hk, rfl, hMl, hTl, hM1, hT1, hB1, hmarks⟩ := hrel
          have HMl : Hid (M.length = q) := hMl
          have HTl : Hid (T.length = q) := hTl
          clear hMl hTl hM hT
          by_cases hlt : k < len
          · obtain ⟨b, off, rfl, hb, hc⟩ := hs (by rw [← Hlen.out]; omega)
            obtain ⟨v, hv⟩ : ∃ v, v = zs.getD k 0 := ⟨_, rfl⟩
            have hv64 : v < 18446744073709551616 := by rw [hv]; exact getD_lt Hz.out k
            have hcx : wr.cell? ⟨b, off + k, none⟩ = some (.int .u64 (v : Nat)) := by
              rw [hv]; exact (hB1.cell (by exact hb)).trans (hc k (by rw [← Hlen.out]; omega))
            have Hv : Hid (v = zs.getD k 0) := hv
            obtain ⟨p, hp⟩ : ∃ p, p = v % (64 * q) := ⟨_, rfl⟩
            have hmod : (v : Int) % (64 * (q : Int)) = (p : Int) := by rw [hp]; norm_cast
            have hplt : p < 64 * q := by rw [hp]; exact Nat.mod_lt _ (by omega)
            have Hp : Hid (p = v % (64 * q)) := hp
            have hpM : p / 64 < M.length := by rw [HMl.out]; omega
            have hpT : p / 64 < T.length := by rw [HTl.out]; omega
            clear hv hp hc
            have hMc := hM1.cell hpM
            have hTc := hT1.cell hpT
            obtain ⟨m, hm⟩ : ∃ m, m = M.getD (p / 64) 0 := ⟨_, rfl⟩
            rw [← hm] at hMc
            have Hm : Hid (m = M.getD (p / 64) 0) := hm
            clear hm
            obtain ⟨t, ht⟩ : ∃ t, t = T.getD (p / 64) 0 := ⟨_, rfl⟩
            rw [← ht] at hTc
            have Ht : Hid (t = T.getD (p / 64) 0) := ht
            clear ht
            have hMf := hM1.free (p / 64)
            have hTf := hT1.free (p / 64)
            have HM1 : Hid (RowU wr bm M) := hM1
            have HT1 : Hid (RowU wr bt T) := hT1
            have hbit := wrap_bit v
            obtain ⟨bit, hbt2⟩ : ∃ bit, bit = 2 ^ (v % 64) := ⟨_, rfl⟩
            rw [← hbt2] at hbit
            have Hbit : Hid (bit = 2 ^ (v % 64)) := hbt2
            have hblt : bit < 18446744073709551616 := by rw [hbt2]; exact bit_lt v
            have hmlt : m < 18446744073709551616 := by rw [Hm.out]; exact getD_lt hmarks.1 _
            have htlt : t < 18446744073709551616 := by rw [Ht.out]; exact getD_lt hmarks.2.1 _
            have hor1 : bits BinOp.or IntKind.u64 (m : Int) (bit : Int) = ((m ||| bit : Nat) : Int) := bits_or_u64_nat m bit hmlt hblt
            have hor2 : bits BinOp.or IntKind.u64 (t : Int) (bit : Int) = ((t ||| bit : Nat) : Int) := bits_or_u64_nat t bit htlt hblt
            have HQ : Hid (zs.take (k + 1) = zs.take k ++ [v]) := by rw [Hv.out]; exact take_snoc zs k (by rw [← Hlen.out]; omega)
            have Htest : Hid ((bits BinOp.and IntKind.u64 ↑m ↑bit != 0) = (M.getD (p / 64) 0).testBit (v % 64)) := by rw [Hm.out, Hbit.out]; exact test_bit _ _ (by rw [← Hm.out]; exact hmlt)
            clear hbt2 hM1 hT1
            go_wp2
            · have hyes : (bits BinOp.and IntKind.u64 ↑m ↑bit != 0) = true := by assumption
              go_roundw
              case rel =>
                refine ⟨k + 1, M.set (p / 64) (m ||| bit), T.set (p / 64) (t ||| bit), by omega, by go_num, by rw [List.length_set]; exact HMl.out, by rw [List.length_set]; exact HTl.out, ?_, ?_, ?_, ?_⟩
                · exact (HM1.out.other (by exact hmt) _).set _ _
                · exact (HT1.out.set _ _).other (by exact hmt.symm) _
                · exact (hB1.setCell (by exact hbt) _).setCell (by exact hbm) _
                · rw [HQ.out, Hm.out, Ht.out, Hbit.out, Hp.out]
                  exact marks_hit hmarks (by rw [← Hp.out]; exact hpM) (by rw [← Hp.out]; exact hpT)
              case measure => simp [intOf]; omega
            · have hno : (bits BinOp.and IntKind.u64 ↑m ↑bit != 0) = false := by assumption
              rw [Htest.out] at hno
              go_roundw
              case rel =>
                refine ⟨k + 1, M.set (p / 64) (m ||| bit), T, by omega, by go_num, by rw [List.length_set]; exact HMl.out, HTl.out, ?_, ?_, ?_, ?_⟩
                · exact HM1.out.set _ _
                · exact HT1.out.other (by exact hmt.symm) _
                · exact hB1.setCell (by exact hbm) _
                · rw [HQ.out, Hm.out, Hbit.out, Hp.out]
                  exact marks_miss hmarks (by rw [← Hp.out]; exact hpM) (by rw [← Hp.out]; exact hno)
              case measure => simp [intOf]; omega
          · have hke : k = len := by omega
            have hmk2 : Marks (64 * q) zs M T := by
              have := hmarks
              rw [hke, Hlen.out, List.take_length] at this
              exact this
            have hbtlt := hT1.lt
            clear hmarks hke hM1 HMl
            go_wp2
            obtain ⟨w3, hw3⟩ : ∃ x, x = wr := ⟨_, rfl⟩
            subst hw3
            go_loopw [65] (fun i wr => ∃ k : Nat, k ≤ len ∧ i = .int .i64 k ∧ SeenIs wr w3.heap.size k (seenB (64 * q) zs T k) ∧ RowU wr bt T ∧ Below w.heap.size w wr ∧ (zs.take k).Nodup) (fun i _ => len - (intOf i).toNat)
            case atStart => exact ⟨0, by omega, rfl, seen_start _ _ _ _, hT1.alloc _, hB1.alloc hB1.size _, by simp⟩
            case round =>
              have hB0 := hB1.size
              clear hT1 hB1
              obtain ⟨k, hk, rfl, hseen, hT1, hB1, hnd⟩ := hrel
              by_cases hlt : k < len
              · have hkz : k < zs.length := by rw [← Hlen.out]; exact hlt
                obtain ⟨b, off, rfl, hb, hc⟩ := hs (by omega)
                obtain ⟨v, hv⟩ : ∃ v, v = zs.getD k 0 := ⟨_, rfl⟩
                have hv64 : v < 18446744073709551616 := by rw [hv]; exact getD_lt Hz.out k
                have hcx : wr.cell? ⟨b, off + k, none⟩ = some (.int .u64 (v : Nat)) := by
                  rw [hv]; exact (hB1.cell (by exact hb)).trans (hc k hkz)
                have Hv : Hid (v = zs.getD k 0) := hv
                obtain ⟨p, hp⟩ : ∃ p, p = v % (64 * q) := ⟨_, rfl⟩
                have hmod : (v : Int) % (64 * (q : Int)) = (p : Int) := by rw [hp]; norm_cast
                have hplt : p < 64 * q := by rw [hp]; exact Nat.mod_lt _ (by omega)
                have Hp : Hid (p = v % (64 * q)) := hp
                have hpT : p / 64 < T.length := by rw [HTl.out]; omega
                have hTc := hT1.cell hpT
                obtain ⟨t, ht⟩ : ∃ t, t = T.getD (p / 64) 0 := ⟨_, rfl⟩
                rw [← ht] at hTc
                have Ht : Hid (t = T.getD (p / 64) 0) := ht
                have hbit := wrap_bit v
                obtain ⟨bit, hbt2⟩ : ∃ bit, bit = 2 ^ (v % 64) := ⟨_, rfl⟩
                rw [← hbt2] at hbit
                have Hbit : Hid (bit = 2 ^ (v % 64)) := hbt2
                have hblt : bit < 18446744073709551616 := by rw [hbt2]; exact bit_lt v
                have htlt : t < 18446744073709551616 := by rw [ht]; exact getD_lt hmk2.2.1 _
                have Htest : Hid ((bits BinOp.and IntKind.u64 ↑t ↑bit == 0) = !twB (64 * q) T v) := by
                  rw [ht, hbt2, hp]; exact test_bit0 _ _ (by rw [← hp, ← ht]; exact htlt)
                have hlook := hseen.look hv64
                have Hseen := hseen
                clear hv hp hc ht hbt2
                cases htw : twB (64 * q) T v with
                | false =>
                  have R := step_skip hmk2 hkz hnd (by rw [← Hv.out]; exact htw)
                  have htest : (bits BinOp.and IntKind.u64 ↑t ↑bit == 0) = true := by rw [Htest.out, htw]; rfl
                  have HR : Hid _ := R
                  clear R htw
                  go_wp2
                  go_roundw
                  case rel => exact ⟨k + 1, by omega, by go_num, Hseen.same HR.out.2, hT1, hB1, HR.out.1⟩
                  case measure => simp [intOf]; omega
                | true =>
                  have htest : (bits BinOp.and IntKind.u64 ↑t ↑bit == 0) = false := by rw [Htest.out, htw]; rfl
                  cases hsv : seenB (64 * q) zs T k v with
                  | true =>
                    have hdup : dupB zs = true := dupB_true (step_dup hkz (by rw [← Hv.out]; exact hsv))
                    rw [hsv] at hlook
                    go_wp2
                    go_ret
                    exact ⟨ret_bool hdup.symm, hB1⟩
                  | false =>
                    have R := step_put hkz hnd (by rw [← Hv.out]; exact htw) (by rw [← Hv.out]; exact hsv)
                    rw [← Hv.out] at R
                    obtain ⟨w1, hrun, hs1, hg1⟩ := hseen.put hv64 (by unfold maxLen; omega) (seenB (64 * q) zs T (k + 1)) R.2.2 R.2.1
                    rw [hsv] at hlook
                    have HR : Hid _ := R.1
                    clear R htw hsv
                    go_wp2
                    go_roundw
                    case rel => exact ⟨k + 1, by omega, by go_num, hs1, hT1.kept hg1 (by simp; omega), hB1.grown hg1 hB1.size (fun j hj => by cases hj; exact hB0), HR.out⟩
                    case measure => simp [intOf]; omega
              · have hke : k = len := by omega
                have hdup : dupB zs = false := dupB_false (by have := hnd; rw [hke, Hlen.out, List.take_length] at this; exact this)
                clear hnd hke
                go_wp2
                go_ret
                exact ⟨ret_bool hdup.symm, hB1⟩

theorem zzrepeats_any (a : Option Addr) (cap : Nat) (zs : List Nat) (hl : zs.length ≤ 200000) (hz : ∀ z ∈ zs, z < 18446744073709551616) (w : World) (hs : SlU w a zs) :
    Calls Try.prog 10 #[.slice a zs.length cap] w fun e w' => e = .returned (.bool (dupB zs)) ∧ Below w.heap.size w w' := by
  have Hz : Hid (∀ z ∈ zs, z < 18446744073709551616) := hz
  clear hz
  go_enter Try.func10, Try.ntmps10
  go_wp2_with (go_at_call 23; refine (repeats_any a cap zs hl Hz.out w hs).mono ?_; rintro e w' ⟨rfl, hb⟩)
  go_ret
  exact ⟨rfl, by assumption⟩

end Go.Proofs.Qxb6600340a
