/-
  The walk of 'FnMatchesAgainstSegmentModel' (function 3); 'zzBytes_..' (function 7).
-/
import Derived.Test.Qxb6600397aModelWalk
namespace Go.Proofs.Qxb6600397a
open Go.RowKit

theorem bytes7_yes (p t : List UInt8) (h : p.length + t.length ≤ 1048576) (w : World) :
    Calls Try.prog 7 #[.string ⟨p.toArray⟩, .string ⟨t.toArray⟩] w fun e w' => e = .returned (.bool true) ∧ w' = w := by
  go_enter Try.func7, Try.ntmps7
  go_wp2
  go_ret
  exact ⟨rfl, rfl⟩
theorem bytes7_no (p t : List UInt8) (hp : p.length ≤ 9223372036854775807) (ht : t.length ≤ 9223372036854775807) (h : ¬ p.length + t.length ≤ 1048576) (w : World) :
    Calls Try.prog 7 #[.string ⟨p.toArray⟩, .string ⟨t.toArray⟩] w fun e w' => e = .returned (.bool false) ∧ w' = w := by
  go_enter Try.func7, Try.ntmps7
  go_wp2
  all_goals (go_ret; exact ⟨rfl, rfl⟩)

theorem walk3_out (p t : List UInt8) (hp : p.length ≤ 9223372036854775807) (ht : t.length ≤ 9223372036854775807) (h : ¬ p.length + t.length ≤ 1048576) (w : World) :
    Calls Try.prog 3 #[.string ⟨p.toArray⟩, .string ⟨t.toArray⟩] w fun e w' => e = .returned (.bool true) ∧ Below w.heap.size w w' := by
  go_enter Try.func3, Try.ntmps3
  go_wp2_with fail
  refine (bytes7_no p t hp ht h _).mono ?_
  rintro e w' ⟨rfl, hw⟩
  subst hw
  go_wp2
  go_ret
  exact ⟨rfl, Below.refl _ _⟩

set_option maxHeartbeats 1000000 in
theorem walk3_in (p t : List UInt8) (h : p.length + t.length ≤ 1048576) (w : World) :
    Calls Try.prog 3 #[.string ⟨p.toArray⟩, .string ⟨t.toArray⟩] w fun e w' => e = .returned (.bool true) ∧ Below w.heap.size w w' := by
  go_enter Try.func3, Try.ntmps3
  go_wp2_with fail
  refine (bytes7_yes p t h _).mono ?_
  rintro e w' ⟨rfl, hw⟩
  subst hw
  go_wp2_with fail
  refine (valid_any t (by omega) _).mono ?_
  rintro e w' ⟨⟨b, rfl, hv⟩, hw⟩
  subst hw
  cases b with
  | false =>
    go_wp2
    go_ret
    exact ⟨rfl, Below.refl _ _⟩
  | true =>
    have hm := model_eq p t (hv rfl)
    have Hm : Hid (matchB p t = modelB p t) := hm
    clear hv hm
    go_wp2_with fail
    refine (patternOK_any p (by omega) _).mono ?_
    rintro e w' ⟨⟨b, rfl⟩, hw⟩
    subst hw
    cases b with
    | false =>
      go_wp2
      go_ret
      exact ⟨rfl, Below.refl _ _⟩
    | true =>
      go_wp2_with fail
      refine (matches_any p t (by omega) (by omega) _).mono ?_
      rintro e w' ⟨rfl, hw⟩
      subst hw
      rw [Hm.out]
      go_wp2_with fail
      refine (model_any p t (by omega) (by omega) _).mono ?_
      rintro e w1 ⟨rfl, hB⟩
      go_wp2
      go_ret
      exact ⟨ret_bool (by simp), hB⟩

end Go.Proofs.Qxb6600397a
