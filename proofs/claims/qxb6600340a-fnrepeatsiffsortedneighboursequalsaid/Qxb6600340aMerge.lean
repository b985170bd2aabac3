/-
  The walk of 'sagaB1MergeSort' (function 11): it hands back a rising permutation, in new memory.
-/
import Derived.Test.Qxb6600340aMem
import Derived.Test.Qxb6600340aSort
import Derived.RegionTactic
import Derived.Deep.QuietTactic
import Derived.BigQuiet
import Derived.Deep.DeepCutAuto
namespace Go.Proofs.Qxb6600340a
open Go.RowKit Go.Maps

theorem RowU.drewN {w : World} {b : Nat} {zs : List Nat} (h : RowU w b zs) (n : Nat) : RowU (w.drewN n) b zs := h

theorem num_eq {a b : Int} (h : a = b) : Value.int .i64 a = .int .i64 b := by rw [h]

set_option maxRecDepth 100000 in
set_option maxHeartbeats 2000000 in
theorem sort_any (a : Option Addr) (cap n : Nat) (zs : List Nat) (hn : zs.length = n) (hl : n ≤ 200000) (hz : ∀ z ∈ zs, z < 18446744073709551616) (w : World) (hs : SlU w a zs) :
    Calls Try.prog 11 #[.slice a n cap] w fun e w' => (∃ (b : Nat) (A : List Nat), e = .returned (.slice (some ⟨b, 0, none⟩) n n) ∧ RowU w' b A ∧ A.Perm zs ∧ Rise A) ∧ Below w.heap.size w w' := by
  have Hz : Hid (∀ z ∈ zs, z < 18446744073709551616) := hz
  have Hlen : Hid (zs.length = n) := hn
  clear hz hn
  have hmk : ∀ w : World, (Instr.makeSlice 22 (.int .i64 ((n : Nat) : Int)) (.int .i64 ((n : Nat) : Int))).run Try.prog w = .ok (.slice (some ⟨w.heap.size, 0, none⟩) n n) (w.alloc (.cells (u64s (List.replicate n 0)) 25)) := fun w => make_u64 n (by omega) .i64 w
  go_enter Try.func11, Try.ntmps11
  go_wp2
  go_loopw [5] (fun i wr => ∃ (k : Nat) (L : List Nat), k ≤ n ∧ i = .int .i64 k ∧ L.length = n ∧ RowU wr w.heap.size L ∧ L.take k = zs.take k ∧ Below w.heap.size w wr) (fun i _ => n - (intOf i).toNat)
  case atStart => exact ⟨0, _, by omega, rfl, by simp, RowU.made _ _, by simp, (Below.refl _ _).alloc (Nat.le_refl _) _⟩
  case round =>
    obtain ⟨k, L, hk, rfl, hL, hrow, htk, hB⟩ := hrel
    have HL : Hid (L.length = n) := hL
    have Htk : Hid (L.take k = zs.take k) := htk
    clear hL htk
    by_cases hlt : k < n
    · obtain ⟨b, off, rfl, hb, hc⟩ := hs (by rw [Hlen.out]; omega)
      obtain ⟨x, hx⟩ : ∃ x, x = zs.getD k 0 := ⟨_, rfl⟩
      have hcx : wr.cell? ⟨b, off + k, none⟩ = some (.int .u64 (x : Nat)) := by
        rw [hx]; exact (hB.cell (by exact hb)).trans (hc k (by rw [Hlen.out]; exact hlt))
      have Hx : Hid (x = zs.getD k 0) := hx
      have hc0 := hrow.cell (j := k) (by rw [HL.out]; omega)
      have hf0 := hrow.free k
      clear hx hc
      go_wp2
      go_roundw
      case rel =>
        refine ⟨k + 1, L.set k x, by omega, by go_num, by rw [List.length_set]; exact HL.out, hrow.set _ _, ?_, hB.setCell (Nat.le_refl _) _⟩
        rw [take_set_snoc' _ _ _ (by rw [HL.out]; omega), Htk.out, take_snoc _ _ (by rw [Hlen.out]; omega), Hx.out]
      case measure => simp [intOf]; omega
    · have HA : Hid (L = zs) := by
        have := Htk.out
        rw [List.take_of_length_le (by rw [HL.out]; omega), List.take_of_length_le (by rw [Hlen.out]; omega)] at this
        exact this
      go_wp2
      obtain ⟨w3, hw3⟩ : ∃ x, x = wr := ⟨_, rfl⟩
      subst hw3
      have hBB : Below w.heap.size w (w3.alloc (.cells (u64s (List.replicate n 0)) 25)) := hB.alloc hB.size _
      have hb0 := hrow.lt
      have hrA := hrow.alloc (.cells (u64s (List.replicate n 0)) 25)
      have hrB := RowU.made w3 (List.replicate n 0)
      have hb1 := hB.size
      clear hmk hs hrow hB Htk
      go_loopw [4, 6, 7] (fun s4 s6 s7 wr => ∃ (ba bb W : Nat) (A B : List Nat), s4 = .slice (some ⟨ba, 0, none⟩) n n ∧ s6 = .slice (some ⟨bb, 0, none⟩) n n ∧ s7 = .int .i64 W ∧ ba ≠ bb ∧ w.heap.size ≤ ba ∧ w.heap.size ≤ bb ∧ 1 ≤ W ∧ W ≤ 2 * n + 1 ∧
          A.length = n ∧ B.length = n ∧ RowU wr ba A ∧ RowU wr bb B ∧ Below w.heap.size w wr ∧ A.Perm zs ∧ Chunks W A) (fun _ _ s7 _ => n - (intOf s7).toNat)
      case atStart => exact ⟨_, _, 1, L, _, rfl, rfl, rfl, by omega, by omega, by omega, by omega, by omega, HL.out, by simp, hrA, hrB, hBB, by rw [HA.out], chunks_one _⟩
      case round =>
        clear hBB hrA hrB hb0 hb1 HA HL
        obtain ⟨ba, bb, W, A, B, rfl, rfl, rfl, hab, hba, hbb, hW1, hW2, hAl, hBl, hA, hB, hbel, hperm, hch⟩ := hrel
        have HAl : Hid (A.length = n) := hAl
        have HBl : Hid (B.length = n) := hBl
        clear hAl hBl
        by_cases hWn : W < n
        · go_wp2
          go_loopg [8] n (fun g s8 wr => ∃ (lo c : Nat) (B : List Nat), s8 = .int .i64 (lo : Nat) ∧ Hid (lo = c * (2 * W)) ∧ g = n - lo ∧ lo ≤ 3 * n + 1 ∧ RowU wr ba A ∧ RowU wr bb B ∧ Below w.heap.size w wr ∧ Hid (Pass A W B c))
          case atStart => exact ⟨0, 0, B, rfl, by simp [Hid], by omega, by omega, hA, hB, hbel, pass_start _ _ _ (by rw [HBl.out, HAl.out])⟩
          case round =>
            clear hA hB hbel HBl
            obtain ⟨lo, c, B, rfl, Hlo, hg, hlo2, hA, hB, hbel, HP⟩ := hrel
            have Hg : Hid (gk = n - lo) := hg
            clear hg
            by_cases hlo : lo < n
            · obtain ⟨mid, hmid⟩ : ∃ m, m = min (lo + W) n := ⟨_, rfl⟩
              obtain ⟨hi, hhi⟩ : ∃ m, m = min (lo + 2 * W) n := ⟨_, rfl⟩
              have Hmid : Hid (mid = min (lo + W) n) := hmid
              have Hhi : Hid (hi = min (lo + 2 * W) n) := hhi
              have b1 : lo ≤ mid := by omega
              have b2 : mid ≤ hi := by omega
              have b3 : hi ≤ n := by omega
              clear hmid hhi
              go_upto_if 49 with fail
              go_cut [9] (fun s9 wx => s9 = .int .i64 (mid : Nat) ∧ wx = wr)
              case first =>
                go_wp2_with fail
                all_goals go_meet
                case rel => exact ⟨num_eq (by rw [Hmid.out]; omega), rfl⟩
                case rel => exact ⟨num_eq (by rw [Hmid.out]; omega), rfl⟩
              case rest =>
                obtain ⟨rfl, rfl⟩ := hcut
                go_upto_if 57 with fail
                go_cut [10] (fun s10 wx => s10 = .int .i64 (hi : Nat) ∧ wx = wc)
                case first =>
                  go_wp2_with fail
                  all_goals go_meet
                  case rel => exact ⟨num_eq (by rw [Hhi.out]; omega), rfl⟩
                  case rel => exact ⟨num_eq (by rw [Hhi.out]; omega), rfl⟩
                case rest =>
                  obtain ⟨rfl, rfl⟩ := hcut
                  go_wp2
                  obtain ⟨X, hX⟩ : ∃ X, X = B.take lo ++ (seg A lo mid).merge (seg A mid hi) leB := ⟨_, rfl⟩
                  have HX : Hid (X = B.take lo ++ (seg A lo mid).merge (seg A mid hi) leB) := hX
                  have HM : Hid (Mid A lo mid hi X B lo mid lo) := by
                    rw [hX]; exact mid_start A B lo mid hi b1 b2 (by rw [HAl.out]; exact b3) HP.out.1
                  clear hX
                  go_loopg [11, 12, 13] ((mid - lo) + (hi - mid)) (fun g s11 s12 s13 wx => ∃ (i j k : Nat) (B' : List Nat), s11 = .int .i64 (i : Nat) ∧ s12 = .int .i64 (j : Nat) ∧ s13 = .int .i64 (k : Nat) ∧ Hid (g = (mid - i) + (hi - j)) ∧
                    RowU wx ba A ∧ RowU wx bb B' ∧ Below w.heap.size w wx ∧ Hid (Mid A lo mid hi X B' i j k))
                  case atStart => exact ⟨lo, mid, lo, B, rfl, rfl, rfl, rfl, hA, hB, hbel, HM⟩
                  case round =>
                    clear hA hB hbel HM
                    obtain ⟨i, j, k, B', rfl, rfl, rfl, Hg4, hA, hB, hbel, HM⟩ := hrel
                    obtain ⟨m1, m2, m3, m4, hk6⟩ : lo ≤ i ∧ i ≤ mid ∧ mid ≤ j ∧ j ≤ hi ∧ k + mid = i + j := ⟨HM.out.1, HM.out.2.1, HM.out.2.2.1, HM.out.2.2.2.1, HM.out.2.2.2.2.2.1⟩
                    have hkn : k ≤ n := by omega
                    have Hk6 : Hid (k + mid = i + j) := hk6
                    have HB'l : Hid (B'.length = n) := HM.out.2.2.2.2.2.2.1.trans HAl.out
                    by_cases hboth : i < mid ∧ j < hi
                    · obtain ⟨hi1, hj1⟩ := hboth
                      have hkn2 : k < n := by omega
                      clear hk6
                      have hci := hA.cell (j := i) (by rw [HAl.out]; omega)
                      have hcj := hA.cell (j := j) (by rw [HAl.out]; omega)
                      obtain ⟨x, hx⟩ : ∃ x, x = A.getD i 0 := ⟨_, rfl⟩
                      obtain ⟨y, hy⟩ : ∃ x, x = A.getD j 0 := ⟨_, rfl⟩
                      rw [← hx] at hci
                      rw [← hy] at hcj
                      have Hx : Hid (x = A.getD i 0) := hx
                      have Hy : Hid (y = A.getD j 0) := hy
                      clear hx hy
                      have hck := hB.cell (j := k) (by rw [HB'l.out]; omega)
                      have hfk := hB.free k
                      have t1 : (i : Int) < n := by omega
                      have t2 : (j : Int) < n := by omega
                      have t3 : (k : Int) < n := by omega
                      by_cases hxy : x ≤ y
                      · have R : Hid (Mid A lo mid hi X (B'.set k x) (i + 1) j (k + 1)) := by
                          rw [Hx.out]; exact mid_left HM.out hi1 hj1 (by rw [← Hx.out, ← Hy.out]; exact hxy)
                        go_wp2
                        go_quiet (fail)
                        go_wp2
                        go_roundg ((mid - (i + 1)) + (hi - j))
                        case measure => rw [Hg4.out]; omega
                        case rel => exact ⟨i + 1, j, k + 1, B'.set k x, by go_num, rfl, by go_num, rfl, (hA.drewN _).other (by exact hab) _, (hB.drewN _).set _ _, (below_drewN hbel _).setCell (by exact hbb) _, R⟩
                      · have R : Hid (Mid A lo mid hi X (B'.set k y) i (j + 1) (k + 1)) := by
                          rw [Hy.out]; exact mid_right HM.out hi1 hj1 (by rw [← Hx.out, ← Hy.out]; exact hxy)
                        go_wp2
                        go_quiet (fail)
                        go_wp2
                        go_roundg ((mid - i) + (hi - (j + 1)))
                        case measure => rw [Hg4.out]; omega
                        case rel => exact ⟨i, j + 1, k + 1, B'.set k y, rfl, by go_num, by go_num, rfl, (hA.drewN _).other (by exact hab) _, (hB.drewN _).set _ _, (below_drewN hbel _).setCell (by exact hbb) _, R⟩
                    · have Hor : Hid (i < mid → j = hi) := fun h => by omega
                      have hnb : mid ≤ i ∨ hi ≤ j := by omega
                      clear hboth hk6
                      by_cases hi1 : i < mid
                      all_goals
                        first
                          | (have hj1 : hi ≤ j := by omega)
                          | (have hj1 : mid ≤ i := by omega)
                        clear hnb
                        go_wp2
                        go_loopg [11, 13] (mid - i) (fun g s11 s13 wx => ∃ (i k : Nat) (B' : List Nat), s11 = .int .i64 (i : Nat) ∧ s13 = .int .i64 (k : Nat) ∧ Hid (g = mid - i) ∧ Hid (i < mid → j = hi) ∧
                          RowU wx ba A ∧ RowU wx bb B' ∧ Below w.heap.size w wx ∧ Hid (Mid A lo mid hi X B' i j k))
                        case atStart => exact ⟨i, k, B', rfl, rfl, rfl, Hor, hA, hB, hbel, HM⟩
                        case round =>
                          clear hA hB hbel HM Hor HB'l hkn Hk6 m1 m2 hi1 hj1 Hg4
                          obtain ⟨i, k, B', rfl, rfl, Hg5, Hor, hA, hB, hbel, HM⟩ := hrel
                          obtain ⟨m1, m2, hk6⟩ : lo ≤ i ∧ i ≤ mid ∧ k + mid = i + j := ⟨HM.out.1, HM.out.2.1, HM.out.2.2.2.2.2.1⟩
                          have hkn : k ≤ n := by omega
                          have HB'l : Hid (B'.length = n) := HM.out.2.2.2.2.2.2.1.trans HAl.out
                          by_cases hi1 : i < mid
                          · have hjh : j = hi := Hor.out hi1
                            have hkn2 : k < n := by omega
                            have R : Hid (Mid A lo mid hi X (B'.set k (A.getD i 0)) (i + 1) j (k + 1)) := by
                              have := HM.out
                              rw [hjh] at this ⊢
                              exact mid_left_rest this hi1
                            have HJ : Hid (j = hi) := hjh
                            clear hk6 hjh Hor
                            have hci := hA.cell (j := i) (by rw [HAl.out]; omega)
                            obtain ⟨x, hx⟩ : ∃ x, x = A.getD i 0 := ⟨_, rfl⟩
                            rw [← hx] at hci R
                            clear hx
                            have hck := hB.cell (j := k) (by rw [HB'l.out]; omega)
                            have hfk := hB.free k
                            have t1 : (i : Int) < n := by omega
                            have t3 : (k : Int) < n := by omega
                            go_wp2
                            go_roundg (mid - (i + 1))
                            case measure => rw [Hg5.out]; omega
                            case rel => exact ⟨i + 1, k + 1, B'.set k x, by go_num, by go_num, rfl, fun _ => HJ.out, hA.other (by exact hab) _, hB.set _ _, hbel.setCell (by exact hbb) _, R⟩
                          · have HM6 : Hid (Mid A lo mid hi X B' mid j k) := by
                              have := HM.out
                              rw [show i = mid by omega] at this
                              exact this
                            clear hk6 HM Hor Hg5
                            go_wp2
                            go_loopg [12, 13] (hi - j) (fun g s12 s13 wx => ∃ (j k : Nat) (B' : List Nat), s12 = .int .i64 (j : Nat) ∧ s13 = .int .i64 (k : Nat) ∧ Hid (g = hi - j) ∧
                              RowU wx ba A ∧ RowU wx bb B' ∧ Below w.heap.size w wx ∧ Hid (Mid A lo mid hi X B' mid j k))
                            case atStart => exact ⟨j, k, B', rfl, rfl, rfl, hA, hB, hbel, HM6⟩
                            case round =>
                              clear hA hB hbel HM6 HB'l hkn m3 m4
                              obtain ⟨j, k, B', rfl, rfl, Hg6, hA, hB, hbel, HM⟩ := hrel
                              obtain ⟨m3, m4, hk6⟩ : mid ≤ j ∧ j ≤ hi ∧ k + mid = mid + j := ⟨HM.out.2.2.1, HM.out.2.2.2.1, HM.out.2.2.2.2.2.1⟩
                              have hkn : k ≤ n := by omega
                              have HB'l : Hid (B'.length = n) := HM.out.2.2.2.2.2.2.1.trans HAl.out
                              by_cases hj1 : j < hi
                              · have hkn2 : k < n := by omega
                                have R : Hid (Mid A lo mid hi X (B'.set k (A.getD j 0)) mid (j + 1) (k + 1)) := mid_right_rest HM.out hj1
                                clear hk6
                                have hci := hA.cell (j := j) (by rw [HAl.out]; omega)
                                obtain ⟨x, hx⟩ : ∃ x, x = A.getD j 0 := ⟨_, rfl⟩
                                rw [← hx] at hci R
                                clear hx
                                have hck := hB.cell (j := k) (by rw [HB'l.out]; omega)
                                have hfk := hB.free k
                                have t1 : (j : Int) < n := by omega
                                have t3 : (k : Int) < n := by omega
                                go_wp2
                                go_roundg (hi - (j + 1))
                                case measure => rw [Hg6.out]; omega
                                case rel => exact ⟨j + 1, k + 1, B'.set k x, by go_num, by go_num, rfl, hA.other (by exact hab) _, hB.set _ _, hbel.setCell (by exact hbb) _, R⟩
                              · have HF : Hid (Pass A W B' (c + 1)) := by
                                  have hM := HM.out
                                  rw [show j = hi by omega] at hM
                                  exact pass_step hch HP.out Hlo.out (by rw [HAl.out]; exact hlo) (by rw [HAl.out]; exact Hmid.out) (by rw [HAl.out]; exact Hhi.out) (by rw [HB'l.out, HAl.out]) ((mid_end hM).2.trans HX.out)
                                clear hk6 HM Hg6
                                go_wp2
                                go_roundg (n - (lo + 2 * W))
                                case measure => rw [Hg.out]; omega
                                case rel => exact ⟨lo + 2 * W, c + 1, B', by go_num, by unfold Hid; rw [Nat.add_mul, ← Hlo.out]; omega, rfl, by omega, hA, hB, hbel, HF⟩
            · have HE := pass_end HP.out (by rw [HAl.out, ← Hlo.out]; omega)
              have HE1 : Hid (B.Perm zs) := HE.1.trans hperm
              have HE2 : Hid (Chunks (W * 2) B) := HE.2
              have HBl : Hid (B.length = n) := HP.out.1.trans HAl.out
              clear HE HP
              go_wp2
              go_roundw
              case rel => exact ⟨bb, ba, W * 2, B, A, rfl, rfl, by go_num, hab.symm, hbb, hba, by omega, by omega, HBl.out, HAl.out, hB, hA, hbel, HE1.out, HE2.out⟩
              case measure => simp [intOf]; omega
        · have HR : Hid (Rise A) := chunks_all hch (by rw [HAl.out]; omega)
          go_wp2
          go_ret
          exact ⟨⟨ba, A, rfl, hA, hperm, HR.out⟩, hbel⟩
end Go.Proofs.Qxb6600340a
