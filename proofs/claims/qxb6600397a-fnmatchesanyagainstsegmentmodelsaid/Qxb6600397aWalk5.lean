/-
  The walk of 'FnMatchesAnyAgainstSegmentModel' (function 5).
-/
import Derived.Test.Qxb6600397aModelWalk
namespace Go.Proofs.Qxb6600397a
open Go.RowKit

/-- The copy, nil or not. -/
theorem clone_any (a : Option Addr) (cap n : Nat) (zs : List (List UInt8)) (hn : zs.length = n) (hnil : a = none → n = 0 ∧ cap = 0) (hl : n ≤ 200000) (w : World) (hs : SlS w a zs) :
    Calls Try.prog 15 #[.slice a n cap] w fun e w' => (∃ a' c', e = .returned (.slice a' n c') ∧ SlS w' a' zs) ∧ Below w.heap.size w w' := by
  cases a with
  | none =>
    obtain ⟨rfl, rfl⟩ := hnil rfl
    refine (clone_nil w).mono ?_
    rintro e w' ⟨rfl, rfl⟩
    exact ⟨⟨none, 0, rfl, hs⟩, Below.refl _ _⟩
  | some x =>
    refine (clone_some x cap n zs hn hl w hs).mono ?_
    rintro e w' ⟨rfl, hr, hb⟩
    refine ⟨⟨_, _, rfl, ?_⟩, hb⟩
    have := hr.sls 0 n
    rw [List.drop_zero, List.take_of_length_le (by omega)] at this
    exact this

def wantB (ss : List (List UInt8)) (t : List UInt8) (k : Nat) : Bool := (ss.take k).any (fun p => modelB p t)
theorem wantB_step {ss : List (List UInt8)} {t : List UInt8} {k : Nat} (hk : k < ss.length) : wantB ss t (k + 1) = (wantB ss t k || modelB (ss.getD k []) t) := by
  unfold wantB
  rw [takeS_snoc ss k hk, List.any_append]
  simp
theorem wantB_end {ss : List (List UInt8)} {t : List UInt8} (ht : NoEnd t) : wantB ss t ss.length = anyB ss t := by
  unfold wantB anyB
  rw [List.take_length]
  congr 1
  funext p
  exact (model_eq p t ht).symm

set_option maxHeartbeats 2000000 in
theorem walk5_any (a : Option Addr) (n cap : Nat) (ss : List (List UInt8)) (t : List UInt8) (hn : ss.length = n) (hnil : a = none → n = 0 ∧ cap = 0) (hl : n ≤ 9223372036854775807) (hs : ∀ s ∈ ss, s.length ≤ 9223372036854775807) (ht : t.length ≤ 9223372036854775807) (w : World) (hS : SlS w a ss) :
    Calls Try.prog 5 #[.slice a n cap, .string ⟨t.toArray⟩] w fun e w' => e = .returned (.bool true) ∧ Below w.heap.size w w' := by
  have Hn : Hid (ss.length = n) := hn
  have Hs : Hid (∀ s ∈ ss, s.length ≤ 9223372036854775807) := hs
  have Hnil : Hid (a = none → n = 0 ∧ cap = 0) := hnil
  clear hn hs hnil
  go_enter Try.func5, Try.ntmps5
  go_wp2_with fail
  refine (bytes13_any a n cap ss t Hn.out hl Hs.out ht _ hS).mono ?_
  rintro e w' ⟨⟨b, rfl⟩, hw⟩
  subst hw
  cases b with
  | false =>
    go_wp2
    go_ret
    exact ⟨rfl, Below.refl _ _⟩
  | true =>
    go_wp2_with fail
    refine (tooBig_any a n cap ss t Hn.out hl Hs.out ht _ hS).mono ?_
    rintro e w' ⟨⟨b, rfl, hf⟩, hw⟩
    subst hw
    cases b with
    | true =>
      go_wp2
      go_ret
      exact ⟨rfl, Below.refl _ _⟩
    | false =>
      have hF := hf rfl
      have htl : t.length ≤ 1048576 := hF.2.1
      have hnl : n ≤ 65536 := by rw [← Hn.out]; exact hF.1
      have HF : Hid (∀ k, k < ss.length → (ss.getD k []).length ≤ 1048576) := hF.2.2
      clear hf hF Hs hl
      go_wp2_with fail
      refine (valid_any t (by omega) _).mono ?_
      rintro e w' ⟨⟨b, rfl, hv⟩, hw⟩
      subst hw
      cases b with
      | false =>
        go_wp2
        go_ret
        exact ⟨rfl, Below.refl _ _⟩
      | true =>
        have Hv : Hid (NoEnd t) := hv rfl
        clear hv
        go_wp2
        go_loop [5] (fun i => ∃ k : Nat, k ≤ n ∧ i = .int .i64 k) (fun i => n - (intOf i).toNat)
        case atStart => exact ⟨0, by omega, rfl⟩
        case round =>
          obtain ⟨k, hk, rfl⟩ := hrel
          by_cases hlt : k < n
          · obtain ⟨b, off, rfl, hb, hc⟩ := hS (by rw [Hn.out]; omega)
            obtain ⟨p, hp⟩ : ∃ p, p = ss.getD k [] := ⟨_, rfl⟩
            have hpl : p.length ≤ 1048576 := by rw [hp]; exact HF.out k (by rw [Hn.out]; exact hlt)
            have hcx : w'.cell? ⟨b, off + k, none⟩ = some (.string ⟨p.toArray⟩) := by rw [hp]; exact hc k (by rw [Hn.out]; exact hlt)
            clear hp hc
            go_wp2_with fail
            refine (patternOK_any p (by omega) _).mono ?_
            rintro e w' ⟨⟨b, rfl⟩, hw⟩
            subst hw
            cases b with
            | false =>
              go_wp2
              go_ret
              exact ⟨rfl, Below.refl _ _⟩
            | true =>
              go_wp2
              go_round
              case rel => exact ⟨k + 1, by omega, by go_num⟩
              case measure => simp [intOf]; omega
          · go_wp2_with fail
            refine (clone_any a cap n ss Hn.out Hnil.out (by omega) _ hS).mono ?_
            rintro e w1 ⟨⟨a1, c1, rfl, hS1⟩, hB1⟩
            clear hS Hnil
            go_wp2
            go_loopw [6, 7] (fun s i wr => ∃ k : Nat, k ≤ n ∧ i = .int .i64 k ∧ s = .bool (wantB ss t k) ∧ SlS wr a1 ss ∧ Below w'.heap.size w' wr) (fun _ i _ => n - (intOf i).toNat)
            case atStart => exact ⟨0, by omega, rfl, by simp [wantB], hS1, hB1⟩
            case round =>
              clear hS1 hB1
              obtain ⟨j, hj, rfl, rfl, hS1, hB1⟩ := hrel
              obtain ⟨d, hd⟩ : ∃ d, d = wantB ss t j := ⟨_, rfl⟩
              rw [← hd]
              have Hd : Hid (d = wantB ss t j) := hd
              clear hd
              by_cases hlt2 : j < n
              · have hst := wantB_step (t := t) (show j < ss.length by rw [Hn.out]; exact hlt2)
                obtain ⟨b, off, rfl, hb, hc⟩ := hS1 (by rw [Hn.out]; omega)
                obtain ⟨p, hp⟩ : ∃ p, p = ss.getD j [] := ⟨_, rfl⟩
                have hpl : p.length ≤ 1048576 := by rw [hp]; exact HF.out j (by rw [Hn.out]; exact hlt2)
                have hcx : wr.cell? ⟨b, off + j, none⟩ = some (.string ⟨p.toArray⟩) := by rw [hp]; exact hc j (by rw [Hn.out]; exact hlt2)
                rw [← hp, ← Hd.out] at hst
                have Hst : Hid (wantB ss t (j + 1) = (d || modelB p t)) := hst
                clear hp hc hst
                go_wp2_with fail
                refine (model_any p t hpl htl _).mono ?_
                rintro e w2 ⟨rfl, hB2⟩
                have hS2 := hS1.below hB2 (Nat.le_refl _)
                have hB3 := hB1.trans (hB2.mono hB1.size)
                cases hm : modelB p t with
                | true =>
                  have HW : Hid (wantB ss t (j + 1) = true) := by unfold Hid; rw [Hst.out, hm, Bool.or_true]
                  go_wp2
                  go_roundw
                  case rel => exact ⟨j + 1, by omega, by go_num, by rw [HW.out], hS2, hB3⟩
                  case measure => simp [intOf]; omega
                | false =>
                  have HW : Hid (wantB ss t (j + 1) = d) := by unfold Hid; rw [Hst.out, hm, Bool.or_false]
                  go_wp2
                  go_roundw
                  case rel => exact ⟨j + 1, by omega, by go_num, by rw [HW.out], hS2, hB3⟩
                  case measure => simp [intOf]; omega
              · have HD : Hid (anyB ss t = d) := by
                  unfold Hid
                  rw [Hd.out, show j = ss.length by rw [Hn.out]; omega]
                  exact (wantB_end Hv.out).symm
                have Hle : Hid (∀ s ∈ ss, s.length ≤ 1000000000) := fun s hs => by
                  obtain ⟨i, hi, rfl⟩ := List.mem_iff_getElem.1 hs
                  have := HF.out i hi
                  rw [List.getD_eq_getElem?_getD, List.getElem?_eq_getElem hi] at this
                  simp at this
                  omega
                go_wp2_with fail
                refine (matchesAny_any a1 n c1 ss t Hn.out (by omega) Hle.out (by omega) _ hS1).mono ?_
                rintro e w2 ⟨rfl, hw⟩
                subst hw
                rw [HD.out]
                go_wp2
                go_ret
                exact ⟨ret_bool (by simp), hB1⟩

end Go.Proofs.Qxb6600397a
