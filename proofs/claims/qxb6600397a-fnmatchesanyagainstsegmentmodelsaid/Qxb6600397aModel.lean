/-
  'zzEtB1WordByte' (18), 'zzEtB1ValidModel' (8), 'zzEtB1PrefixForm' (19), 'zzEtB1PatternOK' (9).
-/
import Derived.Test.Qxb6600397aList
import Derived.Test.Qxb6600397aSegs
import Derived.WalkSmall
import Derived.RegionTactic
import Derived.Deep.QuietTactic
import Derived.BigQuiet
namespace Go.Proofs.Qxb6600397a
open Go.RowKit
attribute [local go_sem] extract_bytes

theorem wordByte_any (c : Int) (w : World) : Calls Try.prog 18 #[.int .u8 c] w fun e w' => SaysBool e ∧ w' = w := by
  go_enter Try.func18, Try.ntmps18
  go_wp2
  all_goals (go_ret; exact ⟨⟨_, rfl⟩, rfl⟩)

/-- It answers; and where it answers yes, t does not end in a full stop. -/
def SaysValid (e : Ending) (t : List UInt8) : Prop := ∃ b : Bool, e = .returned (.bool b) ∧ (b = true → NoEnd t)

theorem last_take (l : List UInt8) (i : Nat) (hi : i < l.length) : (l.take (i + 1)).getLast? = some (l.getD i 0) := by
  rw [List.take_succ_eq_append_getElem hi, List.getLast?_concat, List.getD_eq_getElem?_getD, List.getElem?_eq_getElem hi]
  rfl

set_option maxHeartbeats 1000000 in
theorem valid_any (t : List UInt8) (ht : t.length ≤ 9223372036854775807) (w : World) :
    Calls Try.prog 8 #[.string ⟨t.toArray⟩] w fun e w' => SaysValid e t ∧ w' = w := by
  go_enter Try.func8, Try.ntmps8
  go_wp2
  go_loop [3, 4] (fun s i => ∃ (k : Nat) (a : Bool), k ≤ t.length ∧ i = .int .i64 k ∧ s = .bool a ∧ Hid (a = false → (t.take k).getLast? ≠ some 46)) (fun _ i => t.length - (intOf i).toNat)
  case atStart => exact ⟨0, true, by omega, rfl, rfl, fun h => by cases h⟩
  case round =>
    obtain ⟨k, a, hk, rfl, rfl, HA⟩ := hrel
    by_cases hlt : k < t.length
    · have HT : Hid (∀ h : k < (⟨t.toArray⟩ : ByteArray).size, ((((⟨t.toArray⟩ : ByteArray)[k]'h).toNat : Int) == 46) = (t.getD k 0 == 46)) := fun h => byte_test t k h
      have HL : Hid ((t.take (k + 1)).getLast? = some (t.getD k 0)) := last_take t k hlt
      go_wp2_with (go_at_call 18; refine (wordByte_any _ _).mono ?_; rintro e w' ⟨⟨bw, rfl⟩, hw⟩; subst hw)
      · go_ret
        exact ⟨⟨_, rfl, fun h => by cases h⟩, rfl⟩
      · go_round
        case rel => exact ⟨k + 1, true, by omega, by go_num, rfl, fun h => by cases h⟩
        case measure => simp [intOf]; omega
      · have hno : ((((⟨t.toArray⟩ : ByteArray)[k]'hlt).toNat : Int) == 46) = false := by assumption
        rw [HT.out hlt] at hno
        go_round
        case rel => exact ⟨k + 1, false, by omega, by go_num, rfl, fun _ => by rw [HL.out]; intro h; rw [Option.some.inj h] at hno; cases hno⟩
        case measure => simp [intOf]; omega
      · go_ret
        exact ⟨⟨_, rfl, fun h => by cases h⟩, rfl⟩
    · go_wp2
      go_ret
      refine ⟨⟨_, rfl, fun h => ?_⟩, rfl⟩
      have : a = false := by simpa using h
      have := HA.out this
      rw [List.take_of_length_le (by omega)] at this
      exact this

/-! ### 'zzEtB1PrefixForm' -/
theorem byte_eq42 (x : UInt8) : ((x.toNat : Int) == 42) = (x == 42) := by
  rw [Bool.eq_iff_iff]
  simp only [beq_iff_eq]
  constructor
  · intro h; apply UInt8.toNat_inj.1; show x.toNat = 42; omega
  · intro h; rw [h]; rfl
theorem sufB_two (p : List UInt8) (h : 2 ≤ p.length) : sufB p [46, 42] = (p.getD (p.length - 2) 0 == 46 && p.getD (p.length - 1) 0 == 42) := by
  have e : p.drop (p.length - 2) = [p.getD (p.length - 2) 0, p.getD (p.length - 1) 0] := by
    rw [List.drop_eq_getElem_cons (by omega), List.drop_eq_getElem_cons (by omega), List.drop_of_length_le (by omega)]
    rw [List.getD_eq_getElem?_getD, List.getD_eq_getElem?_getD, List.getElem?_eq_getElem (by omega), List.getElem?_eq_getElem (by omega)]
    simp only [Option.getD_some]
    congr 2
    congr 1
    omega
  unfold sufB
  rw [Bool.eq_iff_iff]
  simp only [List.length_cons, List.length_nil, Bool.and_eq_true, decide_eq_true_eq, beq_iff_eq]
  rw [show p.length - (0 + 1 + 1) = p.length - 2 by omega, e]
  simp [h]

set_option maxHeartbeats 1000000 in
theorem prefixForm_yes (p : List UInt8) (hp : p.length ≤ 1000000000) (hs : sufB p [46, 42] = true) (w : World) :
    Calls Try.prog 19 #[.string ⟨p.toArray⟩] w fun e w' => e = .returned (.tuple #[.string ⟨(p.take (p.length - 2)).toArray⟩, .bool true]) ∧ w' = w := by
  have h2 : 2 ≤ p.length := sufB_le hs
  have hi1 : p.length - 2 < (⟨p.toArray⟩ : ByteArray).size := by show p.length - 2 < p.length; omega
  have hi2 : p.length - 1 < (⟨p.toArray⟩ : ByteArray).size := by show p.length - 1 < p.length; omega
  rw [sufB_two p h2, Bool.and_eq_true] at hs
  have H1 : ((((⟨p.toArray⟩ : ByteArray)[p.length - 2]'hi1).toNat : Int) == 46) = true := by rw [byte_at, byte_eq]; exact hs.1
  have H2 : ((((⟨p.toArray⟩ : ByteArray)[p.length - 1]'hi2).toNat : Int) == 42) = true := by rw [byte_at, byte_eq42]; exact hs.2
  clear hs
  go_enter Try.func19, Try.ntmps19
  go_wp2
  go_ret2
  exact ⟨rfl, rfl⟩

set_option maxHeartbeats 1000000 in
theorem prefixForm_no (p : List UInt8) (hp : p.length ≤ 1000000000) (hs : sufB p [46, 42] = false) (w : World) :
    Calls Try.prog 19 #[.string ⟨p.toArray⟩] w fun e w' => e = .returned (.tuple #[.string ⟨#[]⟩, .bool false]) ∧ w' = w := by
  by_cases h2 : 2 ≤ p.length
  · have hi1 : p.length - 2 < (⟨p.toArray⟩ : ByteArray).size := by show p.length - 2 < p.length; omega
    have hi2 : p.length - 1 < (⟨p.toArray⟩ : ByteArray).size := by show p.length - 1 < p.length; omega
    rw [sufB_two p h2] at hs
    cases h46 : (p.getD (p.length - 2) 0 == 46) with
    | true =>
      rw [h46, Bool.true_and] at hs
      have H1 : ((((⟨p.toArray⟩ : ByteArray)[p.length - 2]'hi1).toNat : Int) == 46) = true := by rw [byte_at, byte_eq]; exact h46
      have H2 : ((((⟨p.toArray⟩ : ByteArray)[p.length - 1]'hi2).toNat : Int) == 42) = false := by rw [byte_at, byte_eq42]; exact hs
      clear hs h46
      go_enter Try.func19, Try.ntmps19
      go_wp2
      go_ret2
      exact ⟨rfl, rfl⟩
    | false =>
      have H1 : ((((⟨p.toArray⟩ : ByteArray)[p.length - 2]'hi1).toNat : Int) == 46) = false := by rw [byte_at, byte_eq]; exact h46
      clear hs h46
      go_enter Try.func19, Try.ntmps19
      go_wp2
      go_ret2
      exact ⟨rfl, rfl⟩
  · clear hs
    go_enter Try.func19, Try.ntmps19
    go_wp2
    go_ret2
    exact ⟨rfl, rfl⟩

/-! ### 'zzEtB1PatternOK': it answers -/
theorem patternOK_any (p : List UInt8) (hp : p.length ≤ 1000000000) (w : World) :
    Calls Try.prog 9 #[.string ⟨p.toArray⟩] w fun e w' => SaysBool e ∧ w' = w := by
  cases h1 : (p == [42]) with
  | true =>
    go_enter Try.func9, Try.ntmps9
    go_wp2
    go_ret
    exact ⟨⟨_, rfl⟩, rfl⟩
  | false =>
    cases hs : sufB p [46, 42] with
    | true =>
      go_enter Try.func9, Try.ntmps9
      go_wp2_with fail
      refine (prefixForm_yes p hp hs _).mono ?_
      rintro e w' ⟨rfl, hw⟩
      subst hw
      go_wp2_with fail
      refine (valid_any _ (by simp; omega) _).mono ?_
      rintro e w' ⟨⟨b, rfl, _⟩, hw⟩
      subst hw
      go_wp2
      go_ret
      exact ⟨⟨_, rfl⟩, rfl⟩
    | false =>
      go_enter Try.func9, Try.ntmps9
      go_wp2_with fail
      refine (prefixForm_no p hp hs _).mono ?_
      rintro e w' ⟨rfl, hw⟩
      subst hw
      go_wp2_with fail
      refine (valid_any p (by omega) _).mono ?_
      rintro e w' ⟨⟨b, rfl, _⟩, hw⟩
      subst hw
      go_wp2
      go_ret
      exact ⟨⟨_, rfl⟩, rfl⟩

end Go.Proofs.Qxb6600397a
