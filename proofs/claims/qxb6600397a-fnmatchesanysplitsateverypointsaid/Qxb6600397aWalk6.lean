/-
  The walk of 'FnMatchesAnySplitsAtEveryPoint' (function 6).
-/
import Derived.Test.Qxb6600397aList
import Derived.RegionTactic
import Derived.Deep.QuietTactic
import Derived.BigQuiet
import Derived.WalkSmall
namespace Go.Proofs.Qxb6600397a
open Go.RowKit

theorem anyB_split (ss : List (List UInt8)) (t : List UInt8) (k : Nat) : anyB ss t = (anyB (ss.take k) t || anyB (ss.drop k) t) := by
  unfold anyB
  rw [← List.any_append, List.take_append_drop]
theorem anyB_nil (t : List UInt8) : anyB [] t = false := rfl
theorem anyB_one (x t : List UInt8) : anyB [x] t = matchB x t := by simp [anyB]
theorem SlS.drewN {w : World} {a : Option Addr} {ss : List (List UInt8)} (h : SlS w a ss) (n : Nat) : SlS (w.drewN n) a ss := h.below (below_drewN (Below.refl w.heap.size w) n) (Nat.le_refl _)

set_option maxHeartbeats 1000000 in
/-- The nil slice. -/
theorem walk6_nil (k0 : Int) (t : List UInt8) (ht : t.length ≤ 9223372036854775807) (w : World) :
    Calls Try.prog 6 #[.slice none 0 0, .int .i64 k0, .string ⟨t.toArray⟩] w fun e w' => e = .returned (.bool true) ∧ Below w.heap.size w w' := by
  go_enter Try.func6, Try.ntmps6
  go_wp2_with fail
  refine (bytes17_any none 0 0 [] k0 t rfl (by omega) (by simp) ht _ (SlS.nil _ _)).mono ?_
  rintro e w' ⟨⟨b, rfl⟩, hw⟩
  subst hw
  cases b with
  | false =>
    go_wp2
    go_ret
    exact ⟨rfl, Below.refl _ _⟩
  | true =>
    go_wp2_with fail
    refine (tooBig_any none 0 0 [] t rfl (by omega) (by simp) ht _ (SlS.nil _ _)).mono ?_
    rintro e w' ⟨⟨b, rfl, hf⟩, hw⟩
    subst hw
    cases b with
    | true =>
      go_wp2
      go_ret
      exact ⟨rfl, Below.refl _ _⟩
    | false =>
      have htl := (hf rfl).2.1
      clear hf
      by_cases hk : k0 = 0
      · subst hk
        have hA : ∀ w : World, Calls Try.prog 16 #[.slice none 0 0, .string ⟨t.toArray⟩] w fun e w' => e = .returned (.bool false) ∧ w' = w := fun w => matchesAny_any none 0 0 [] t rfl (by omega) (by simp) (by omega) w (SlS.nil _ _)
        have HA : Hid (∀ w : World, Calls Try.prog 16 #[.slice none 0 0, .string ⟨t.toArray⟩] w fun e w' => e = .returned (.bool false) ∧ w' = w) := hA
        clear hA
        go_wp2_with fail
        refine (clone_nil _).mono ?_
        rintro e w' ⟨rfl, hw⟩
        subst hw
        go_wp2_with (go_at_call 16; refine (HA.out _).mono ?_; rintro e w' ⟨rfl, hw⟩; subst hw)
        go_quiet (fail)
        go_wp2
        go_ret
        exact ⟨rfl, below_drewN (Below.refl _ _) _⟩
      · go_wp2
        all_goals (go_ret; exact ⟨rfl, Below.refl _ _⟩)

set_option maxHeartbeats 2000000 in
/-- A slice that is not nil. -/
theorem walk6_some (x : Addr) (n cap : Nat) (ss : List (List UInt8)) (k0 : Int) (t : List UInt8) (hn : ss.length = n) (hl : n ≤ 9223372036854775807) (hs : ∀ s ∈ ss, s.length ≤ 9223372036854775807) (ht : t.length ≤ 9223372036854775807) (w : World) (hS : SlS w (some x) ss) :
    Calls Try.prog 6 #[.slice (some x) n cap, .int .i64 k0, .string ⟨t.toArray⟩] w fun e w' => e = .returned (.bool true) ∧ Below w.heap.size w w' := by
  have Hn : Hid (ss.length = n) := hn
  have Hs : Hid (∀ s ∈ ss, s.length ≤ 9223372036854775807) := hs
  clear hn hs
  go_enter Try.func6, Try.ntmps6
  go_wp2_with fail
  refine (bytes17_any (some x) n cap ss k0 t Hn.out hl Hs.out ht _ hS).mono ?_
  rintro e w' ⟨⟨b, rfl⟩, hw⟩
  subst hw
  cases b with
  | false =>
    go_wp2
    go_ret
    exact ⟨rfl, Below.refl _ _⟩
  | true =>
    go_wp2_with fail
    refine (tooBig_any (some x) n cap ss t Hn.out hl Hs.out ht _ hS).mono ?_
    rintro e w' ⟨⟨b, rfl, hf⟩, hw⟩
    subst hw
    cases b with
    | true =>
      go_wp2
      go_ret
      exact ⟨rfl, Below.refl _ _⟩
    | false =>
      have hF := hf rfl
      have htl : t.length ≤ 1048576 := hF.2.1
      have hnl : n ≤ 65536 := by rw [← Hn.out]; exact hF.1
      have HF : Hid (∀ k, k < ss.length → (ss.getD k []).length ≤ 1048576) := hF.2.2
      clear hf hF Hs hl
      by_cases hk : 0 ≤ k0 ∧ k0 ≤ n
      · obtain ⟨k, rfl⟩ := Int.eq_ofNat_of_zero_le hk.1
        have hkn : k ≤ n := by omega
        clear hk
        have Hle : Hid (∀ s ∈ ss, s.length ≤ 1000000000) := fun s hs => by
          obtain ⟨j, hj, rfl⟩ := List.mem_iff_getElem.1 hs
          have := HF.out j hj
          rw [List.getD_eq_getElem?_getD, List.getElem?_eq_getElem hj] at this
          simp at this
          omega
        go_wp2_with fail
        refine (clone_some x cap n ss Hn.out (by omega) _ hS).mono ?_
        rintro e w1 ⟨rfl, hr, hB⟩
        obtain ⟨N, hN⟩ : ∃ N, N = w'.heap.size := ⟨_, rfl⟩
        rw [← hN] at hr ⊢
        have HN : Hid (N = w'.heap.size) := hN
        have HB : Hid (Below w'.heap.size w' w1) := hB
        clear hN hB
        have HA0 : Hid (∀ w : World, Calls Try.prog 16 #[.slice none 0 0, .string ⟨t.toArray⟩] w fun e w' => e = .returned (.bool false) ∧ w' = w) := fun w => matchesAny_any none 0 0 [] t rfl (by omega) (by simp) (by omega) w (SlS.nil _ _)
        have HA1 : Hid (Calls Try.prog 16 #[.slice (some ⟨N, 0, none⟩) n n, .string ⟨t.toArray⟩] w1 fun e w' => e = .returned (.bool (anyB ss t)) ∧ w' = w1) := matchesAny_any _ n n ss t Hn.out (by omega) Hle.out (by omega) _ (by
          have := hr.sls 0 n
          rw [List.drop_zero, List.take_of_length_le (by rw [Hn.out]; omega)] at this; exact this)
        have HA2 : Hid (Calls Try.prog 16 #[.slice (some ⟨N, 0, none⟩) k n, .string ⟨t.toArray⟩] w1 fun e w' => e = .returned (.bool (anyB (ss.take k) t)) ∧ w' = w1) := matchesAny_any _ k n (ss.take k) t (by rw [List.length_take, Hn.out]; omega) (by omega) (fun s hs => Hle.out s (List.mem_of_mem_take hs)) (by omega) _ (by
          have := hr.sls 0 k
          rw [List.drop_zero] at this; exact this)
        go_wp2_with fail
        refine (HA0.out _).mono ?_
        rintro e w' ⟨rfl, hw⟩
        subst hw
        go_wp2_with fail
        refine HA1.out.mono ?_
        rintro e w' ⟨rfl, hw⟩
        subst hw
        go_wp2_with fail
        refine HA2.out.mono ?_
        rintro e w' ⟨rfl, hw⟩
        subst hw
        have hsplit := anyB_split ss t k
        have HA3 : Hid (∀ a, (k < n → a = some ⟨N, k, none⟩) → Calls Try.prog 16 #[.slice a (n - k) (n - k), .string ⟨t.toArray⟩] w' fun e w1 => e = .returned (.bool (anyB (ss.drop k) t)) ∧ w1 = w') := fun a ha =>
          matchesAny_any a (n - k) (n - k) (ss.drop k) t (by rw [List.length_drop, Hn.out]) (by omega) (fun s hs => Hle.out s (List.mem_of_mem_drop hs)) (by omega) _ (by
            by_cases hkn2 : k < n
            · have := hr.sls k (n - k)
              rw [List.take_of_length_le (by rw [List.length_drop, Hn.out]; omega)] at this
              rw [ha hkn2]; exact this
            · rw [List.drop_of_length_le (by rw [Hn.out]; omega)]; exact SlS.nil _ _)
        by_cases hkl : k < n
        · obtain ⟨p, hp⟩ : ∃ p, p = ss.getD k [] := ⟨_, rfl⟩
          have hpl : p.length ≤ 1000000000 := by rw [hp]; exact getD_le Hle.out k
          have hcx : w'.cell? ⟨N, k, none⟩ = some (.string ⟨p.toArray⟩) := by rw [hp]; exact hr.cell (by rw [Hn.out]; exact hkl)
          have HA4 : Hid (∀ nq, Calls Try.prog 16 #[.slice (some ⟨N, k, none⟩) 1 (n - k), .string ⟨t.toArray⟩] (w'.drewN nq) fun e w1 => e = .returned (.bool (matchB p t)) ∧ w1 = w'.drewN nq) := fun nq => by
            have e1 : (ss.drop k).take 1 = [p] := by
              rw [List.drop_eq_getElem_cons (by rw [Hn.out]; exact hkl), hp, List.getD_eq_getElem?_getD, List.getElem?_eq_getElem (by rw [Hn.out]; exact hkl)]; rfl
            rw [← anyB_one p t]
            exact matchesAny_any _ 1 (n - k) [p] t rfl (by omega) (by simpa using hpl) (by omega) _ (by
              have := (hr.sls k 1).drewN nq
              rw [e1] at this; exact this)
          have HM : Hid (∀ w1, Calls Try.prog 10 #[.string ⟨p.toArray⟩, .string ⟨t.toArray⟩] w1 fun e w2 => e = .returned (.bool (matchB p t)) ∧ w2 = w1) := fun w1 => matches_any p t hpl (by omega) w1
          clear hp
          have hki : (k : Int) < n := by omega
          cases hb : anyB (ss.take k) t with
          | true =>
            rw [hb, Bool.true_or] at hsplit
            rw [hsplit]
            go_wp2_with fail
            go_quiet ((first | (go_at_call 16; exact Calls.quiet_of_same (HA4.out _)) | (go_at_call 10; exact Calls.quiet_of_same (HM.out _))))
            go_wp2
            go_ret
            exact ⟨rfl, below_drewN HB.out _⟩
          | false =>
            rw [hb, Bool.false_or] at hsplit
            rw [hsplit]
            go_wp2_with fail
            refine (HA3.out _ (fun _ => rfl)).mono ?_
            rintro e w1 ⟨rfl, hw⟩
            subst hw
            go_wp2_with fail
            go_quiet ((first | (go_at_call 16; exact Calls.quiet_of_same (HA4.out _)) | (go_at_call 10; exact Calls.quiet_of_same (HM.out _))))
            go_wp2
            go_ret
            exact ⟨rfl, below_drewN HB.out _⟩
        · have hd : decide ((k : Int) < (n : Int)) = false := by simp; omega
          cases hb : anyB (ss.take k) t with
          | true =>
            rw [hb, Bool.true_or] at hsplit
            rw [hsplit]
            go_wp2_with fail
            go_quiet (fail)
            go_wp2
            go_ret
            exact ⟨rfl, below_drewN HB.out _⟩
          | false =>
            rw [hb, Bool.false_or] at hsplit
            rw [hsplit]
            go_wp2_with fail
            refine (HA3.out _ (fun h => absurd h hkl)).mono ?_
            rintro e w1 ⟨rfl, hw⟩
            subst hw
            go_wp2_with fail
            go_quiet (fail)
            go_wp2
            go_ret
            exact ⟨rfl, below_drewN HB.out _⟩
      · go_wp2
        all_goals first
          | (go_ret; exact ⟨rfl, Below.refl _ _⟩)
          | (exfalso; apply hk; omega)

end Go.Proofs.Qxb6600397a
