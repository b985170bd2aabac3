/-
  The walk of 'FnMatchesReflexiveAndPrefixPatternsNest' (function 4); 'zzBytes_..' (function 12).
-/
import Derived.Test.Qxb6600397aStr
namespace Go.Proofs.Qxb6600397a
open Go.RowKit

theorem append_bytes (a b : List UInt8) : (⟨a.toArray⟩ : ByteArray) ++ ⟨b.toArray⟩ = ⟨(a ++ b).toArray⟩ := by
  apply ByteArray.ext
  rw [ByteArray.data_append]
  simp
theorem narrow_bytes (q s : List UInt8) : (⟨q.toArray⟩ ++ ⟨#[46]⟩ ++ ⟨s.toArray⟩ ++ ⟨#[46, 42]⟩ : ByteArray) = ⟨(q ++ 46 :: s ++ [46, 42]).toArray⟩ := by
  rw [append_bytes q [46], append_bytes _ s, append_bytes _ [46, 42]]; simp
theorem broad_bytes (q : List UInt8) : (⟨q.toArray⟩ ++ ⟨#[46, 42]⟩ : ByteArray) = ⟨(q ++ [46, 42]).toArray⟩ := append_bytes q [46, 42]
theorem step_bytes (q s : List UInt8) : (⟨q.toArray⟩ ++ ⟨#[46]⟩ ++ ⟨s.toArray⟩ : ByteArray) = ⟨(q ++ 46 :: s).toArray⟩ := by
  rw [append_bytes q [46], append_bytes _ s]; simp

theorem bytes12_yes (q s t : List UInt8) (h : q.length + s.length + t.length ≤ 1048576) (w : World) :
    Calls Try.prog 12 #[.string ⟨q.toArray⟩, .string ⟨s.toArray⟩, .string ⟨t.toArray⟩] w fun e w' => e = .returned (.bool true) ∧ w' = w := by
  go_enter Try.func12, Try.ntmps12
  go_wp2
  go_ret
  exact ⟨rfl, rfl⟩
theorem bytes12_no (q s t : List UInt8) (hq : q.length ≤ 9223372036854775807) (hs : s.length ≤ 9223372036854775807) (ht : t.length ≤ 9223372036854775807) (h : ¬ q.length + s.length + t.length ≤ 1048576) (w : World) :
    Calls Try.prog 12 #[.string ⟨q.toArray⟩, .string ⟨s.toArray⟩, .string ⟨t.toArray⟩] w fun e w' => e = .returned (.bool false) ∧ w' = w := by
  go_enter Try.func12, Try.ntmps12
  go_wp2
  all_goals (go_ret; exact ⟨rfl, rfl⟩)

theorem walk4_out (q s t : List UInt8) (hq : q.length ≤ 9223372036854775807) (hs : s.length ≤ 9223372036854775807) (ht : t.length ≤ 9223372036854775807) (h : ¬ q.length + s.length + t.length ≤ 1048576) (w : World) :
    Calls Try.prog 4 #[.string ⟨q.toArray⟩, .string ⟨s.toArray⟩, .string ⟨t.toArray⟩] w fun e w' => e = .returned (.bool true) ∧ w' = w := by
  go_enter Try.func4, Try.ntmps4
  go_wp2_with fail
  refine (bytes12_no q s t hq hs ht h _).mono ?_
  rintro e w' ⟨rfl, hw⟩
  subst hw
  go_wp2
  go_ret
  exact ⟨rfl, rfl⟩

set_option maxHeartbeats 1000000 in
theorem walk4_in (q s t : List UInt8) (h : q.length + s.length + t.length ≤ 1048576) (w : World) :
    Calls Try.prog 4 #[.string ⟨q.toArray⟩, .string ⟨s.toArray⟩, .string ⟨t.toArray⟩] w fun e w' => e = .returned (.bool true) ∧ w' = w := by
  have r1 := match_refl t
  go_enter Try.func4, Try.ntmps4
  go_wp2_with fail
  refine (bytes12_yes q s t h _).mono ?_
  rintro e w' ⟨rfl, hw⟩
  subst hw
  go_wp2_with fail
  refine (matches_any t t (by omega) (by omega) _).mono ?_
  rintro e w' ⟨rfl, hw⟩
  subst hw
  rw [r1]
  go_wp2_with fail
  rw [narrow_bytes]
  refine (matches_any _ t (by simp; omega) (by omega) _).mono ?_
  rintro e w' ⟨rfl, hw⟩
  subst hw
  cases hb : matchB (q ++ 46 :: s ++ [46, 42]) t with
  | true =>
    have hn := match_nest hb
    have hst := match_step q s
    go_wp2_with fail
    rw [broad_bytes]
    refine (matches_any _ t (by simp; omega) (by omega) _).mono ?_
    rintro e w' ⟨rfl, hw⟩
    subst hw
    rw [hn]
    go_wp2_with fail
    rw [step_bytes]
    refine (matches_any _ _ (by simp; omega) (by simp; omega) _).mono ?_
    rintro e w' ⟨rfl, hw⟩
    subst hw
    rw [hst]
    go_wp2
    go_ret
    exact ⟨ret_bool (by simp), rfl⟩
  | false =>
    have hst := match_step q s
    go_wp2_with fail
    rw [broad_bytes, step_bytes]
    refine (matches_any _ _ (by simp; omega) (by simp; omega) _).mono ?_
    rintro e w' ⟨rfl, hw⟩
    subst hw
    rw [hst]
    go_wp2
    go_ret
    exact ⟨ret_bool (by simp), rfl⟩

end Go.Proofs.Qxb6600397a
