/-
  The library's six functions on this road, each as a plain function of lists of bytes: HasSuffix (25), HasPrefix (26), CutSuffix (23, 20), CutPrefix (24, 21).
-/
import Derived.Test.Qxb6600397aRows
import Derived.Test.Qxb6600397aPlain
import Derived.WalkKit
namespace Go.Proofs.Qxb6600397a
open Go.RowKit

theorem extract_bytes (l : List UInt8) (i j : Nat) : (⟨l.toArray⟩ : ByteArray).extract i j = ⟨((l.take j).drop i).toArray⟩ := by
  apply ByteArray.ext
  rw [ByteArray.data_extract]
  apply Array.toList_inj.1
  simp [List.drop_take]
attribute [local go_sem] extract_bytes

theorem ret_bool {a b : Bool} (h : a = b) : Ending.returned (.bool a) = .returned (.bool b) := by rw [h]

theorem byte_at (r : List UInt8) (i : Nat) (h : i < (⟨r.toArray⟩ : ByteArray).size) : (⟨r.toArray⟩ : ByteArray)[i] = r.getD i 0 := by
  have hi : i < r.length := h
  show r.toArray[i] = _
  simp [List.getD_eq_getElem?_getD, hi]
theorem byte_eq (x : UInt8) : ((x.toNat : Int) == 46) = (x == 46) := by
  rw [Bool.eq_iff_iff]
  simp only [beq_iff_eq]
  constructor
  · intro h; apply UInt8.toNat_inj.1; show x.toNat = 46; omega
  · intro h; rw [h]; rfl
theorem byte_test (r : List UInt8) (i : Nat) (h : i < (⟨r.toArray⟩ : ByteArray).size) : ((((⟨r.toArray⟩ : ByteArray)[i]'h).toNat : Int) == 46) = (r.getD i 0 == 46) := by
  rw [byte_at, byte_eq]

theorem hasSuffix_any (s t : List UInt8) (hs : s.length ≤ 1000000000) (ht : t.length ≤ 1000000000) (w : World) :
    Calls Try.prog 25 #[.string ⟨s.toArray⟩, .string ⟨t.toArray⟩] w fun e w' => e = .returned (.bool (sufB s t)) ∧ w' = w := by
  go_enter Try.func25, Try.ntmps25
  go_wp2
  · have h : t.length ≤ s.length := by assumption
    go_ret
    exact ⟨ret_bool (by simp [sufB, h]), rfl⟩
  · have h : ¬ t.length ≤ s.length := by assumption
    go_ret
    exact ⟨ret_bool (by simp [sufB, h]), rfl⟩

theorem hasPrefix_any (s t : List UInt8) (w : World) :
    Calls Try.prog 26 #[.string ⟨s.toArray⟩, .string ⟨t.toArray⟩] w fun e w' => e = .returned (.bool (preB s t)) ∧ w' = w := by
  go_enter Try.func26, Try.ntmps26
  go_wp2
  · have h : t.length ≤ s.length := by assumption
    go_ret
    exact ⟨ret_bool (by simp [preB, h]), rfl⟩
  · have h : ¬ t.length ≤ s.length := by assumption
    go_ret
    exact ⟨ret_bool (by simp [preB, h]), rfl⟩

theorem cutSuffix_yes (s t : List UInt8) (hs : s.length ≤ 1000000000) (ht : t.length ≤ 1000000000) (h : sufB s t = true) (w : World) :
    Calls Try.prog 23 #[.string ⟨s.toArray⟩, .string ⟨t.toArray⟩] w fun e w' => e = .returned (.tuple #[.string ⟨(s.take (s.length - t.length)).toArray⟩, .bool true]) ∧ w' = w := by
  have hle := sufB_le h
  go_enter Try.func23, Try.ntmps23
  go_wp2_with fail
  refine (hasSuffix_any s t hs ht _).mono ?_
  rintro e w' ⟨rfl, hw⟩
  subst hw
  go_wp2
  go_ret2
  exact ⟨rfl, rfl⟩
theorem cutSuffix_no (s t : List UInt8) (hs : s.length ≤ 1000000000) (ht : t.length ≤ 1000000000) (h : sufB s t = false) (w : World) :
    Calls Try.prog 23 #[.string ⟨s.toArray⟩, .string ⟨t.toArray⟩] w fun e w' => e = .returned (.tuple #[.string ⟨s.toArray⟩, .bool false]) ∧ w' = w := by
  go_enter Try.func23, Try.ntmps23
  go_wp2_with fail
  refine (hasSuffix_any s t hs ht _).mono ?_
  rintro e w' ⟨rfl, hw⟩
  subst hw
  go_wp2
  go_ret2
  exact ⟨rfl, rfl⟩
theorem cutPrefix_yes (s t : List UInt8) (h : preB s t = true) (w : World) :
    Calls Try.prog 24 #[.string ⟨s.toArray⟩, .string ⟨t.toArray⟩] w fun e w' => e = .returned (.tuple #[.string ⟨(s.drop t.length).toArray⟩, .bool true]) ∧ w' = w := by
  have hle := preB_le h
  go_enter Try.func24, Try.ntmps24
  go_wp2_with fail
  refine (hasPrefix_any s t _).mono ?_
  rintro e w' ⟨rfl, hw⟩
  subst hw
  go_wp2
  go_ret2
  exact ⟨rfl, rfl⟩
theorem cutPrefix_no (s t : List UInt8) (h : preB s t = false) (w : World) :
    Calls Try.prog 24 #[.string ⟨s.toArray⟩, .string ⟨t.toArray⟩] w fun e w' => e = .returned (.tuple #[.string ⟨s.toArray⟩, .bool false]) ∧ w' = w := by
  go_enter Try.func24, Try.ntmps24
  go_wp2_with fail
  refine (hasPrefix_any s t _).mono ?_
  rintro e w' ⟨rfl, hw⟩
  subst hw
  go_wp2
  go_ret2
  exact ⟨rfl, rfl⟩

/-! ### 'strings.CutSuffix' (20), 'strings.CutPrefix' (21) -/
theorem cutS_yes (s t : List UInt8) (hs : s.length ≤ 1000000000) (ht : t.length ≤ 1000000000) (h : sufB s t = true) (w : World) :
    Calls Try.prog 20 #[.string ⟨s.toArray⟩, .string ⟨t.toArray⟩] w fun e w' => e = .returned (.tuple #[.string ⟨(s.take (s.length - t.length)).toArray⟩, .bool true]) ∧ w' = w := by
  go_enter Try.func20, Try.ntmps20
  go_wp2_with fail
  refine (cutSuffix_yes s t hs ht h _).mono ?_
  rintro e w' ⟨rfl, hw⟩
  subst hw
  go_wp2
  go_ret2
  exact ⟨rfl, rfl⟩
theorem cutS_no (s t : List UInt8) (hs : s.length ≤ 1000000000) (ht : t.length ≤ 1000000000) (h : sufB s t = false) (w : World) :
    Calls Try.prog 20 #[.string ⟨s.toArray⟩, .string ⟨t.toArray⟩] w fun e w' => e = .returned (.tuple #[.string ⟨s.toArray⟩, .bool false]) ∧ w' = w := by
  go_enter Try.func20, Try.ntmps20
  go_wp2_with fail
  refine (cutSuffix_no s t hs ht h _).mono ?_
  rintro e w' ⟨rfl, hw⟩
  subst hw
  go_wp2
  go_ret2
  exact ⟨rfl, rfl⟩
theorem cutP_yes (s t : List UInt8) (h : preB s t = true) (w : World) :
    Calls Try.prog 21 #[.string ⟨s.toArray⟩, .string ⟨t.toArray⟩] w fun e w' => e = .returned (.tuple #[.string ⟨(s.drop t.length).toArray⟩, .bool true]) ∧ w' = w := by
  go_enter Try.func21, Try.ntmps21
  go_wp2_with fail
  refine (cutPrefix_yes s t h _).mono ?_
  rintro e w' ⟨rfl, hw⟩
  subst hw
  go_wp2
  go_ret2
  exact ⟨rfl, rfl⟩
theorem cutP_no (s t : List UInt8) (h : preB s t = false) (w : World) :
    Calls Try.prog 21 #[.string ⟨s.toArray⟩, .string ⟨t.toArray⟩] w fun e w' => e = .returned (.tuple #[.string ⟨s.toArray⟩, .bool false]) ∧ w' = w := by
  go_enter Try.func21, Try.ntmps21
  go_wp2_with fail
  refine (cutPrefix_no s t h _).mono ?_
  rintro e w' ⟨rfl, hw⟩
  subst hw
  go_wp2
  go_ret2
  exact ⟨rfl, rfl⟩

/-! ### 'eventtype.Matches' (10) -/
set_option maxHeartbeats 1000000 in
theorem matches_any (p t : List UInt8) (hp : p.length ≤ 1000000000) (ht : t.length ≤ 1000000000) (w : World) :
    Calls Try.prog 10 #[.string ⟨p.toArray⟩, .string ⟨t.toArray⟩] w fun e w' => e = .returned (.bool (matchB p t)) ∧ w' = w := by
  cases h1 : (p == [42]) with
  | true =>
    have hfin : Hid (matchB p t = true) := by simp only [Hid, matchB, h1, Bool.true_or]
    go_enter Try.func10, Try.ntmps10
    go_wp2
    go_ret
    exact ⟨ret_bool hfin.out.symm, rfl⟩
  | false =>
    cases h2 : sufB p [46, 42] with
    | false =>
      have hfin : Hid (matchB p t = (p == t)) := by simp [Hid, matchB, h1, h2]
      go_enter Try.func10, Try.ntmps10
      go_wp2_with fail
      refine (cutS_no p [46, 42] hp (by simp) h2 _).mono ?_
      rintro e w' ⟨rfl, hw⟩
      subst hw
      go_wp2
      go_ret
      exact ⟨ret_bool hfin.out.symm, rfl⟩
    | true =>
      have h2l := sufB_le h2
      obtain ⟨q, hq⟩ : ∃ q, q = p.take (p.length - 2) := ⟨_, rfl⟩
      have Hq : Hid (p.take (p.length - ([46, 42] : List UInt8).length) = q) := by rw [hq]; rfl
      have hfin : Hid (matchB p t = goesOnB t q) := by rw [hq]; simp [Hid, matchB, h1, h2]
      clear hq
      cases h3 : preB t q with
      | false =>
        have hf2 : Hid (goesOnB t q = false) := by simp only [Hid, goesOnB, h3, Bool.false_and]
        go_enter Try.func10, Try.ntmps10
        go_wp2_with fail
        refine (cutS_yes p [46, 42] hp (by simp) h2 _).mono ?_
        rintro e w' ⟨rfl, hw⟩
        subst hw
        rw [Hq.out]
        go_wp2_with fail
        refine (cutP_no t q h3 _).mono ?_
        rintro e w' ⟨rfl, hw⟩
        subst hw
        go_wp2
        go_ret
        exact ⟨ret_bool (by rw [hfin.out, hf2.out]), rfl⟩
      | true =>
        obtain ⟨r, hr⟩ : ∃ r, r = t.drop q.length := ⟨_, rfl⟩
        have Hr : Hid (t.drop q.length = r) := hr.symm
        have hf2 : Hid (goesOnB t q = (decide (1 < r.length) && (r.getD 0 0 == 46))) := by rw [hr]; simp only [Hid, goesOnB, h3, Bool.true_and]
        have hrl : r.length ≤ 1000000000 := by rw [hr]; simp; omega
        clear hr
        go_enter Try.func10, Try.ntmps10
        go_wp2_with fail
        refine (cutS_yes p [46, 42] hp (by simp) h2 _).mono ?_
        rintro e w' ⟨rfl, hw⟩
        subst hw
        rw [Hq.out]
        go_wp2_with fail
        refine (cutP_yes t q h3 _).mono ?_
        rintro e w' ⟨rfl, hw⟩
        subst hw
        rw [Hr.out]
        go_wp2
        · have hlen : 1 < (r.length : Int) := by assumption
          go_ret
          exact ⟨ret_bool (by rw [hfin.out, hf2.out, decide_eq_true (by omega), Bool.true_and, byte_test]), rfl⟩
        · have hlen : (r.length : Int) ≤ 1 := by assumption
          go_ret
          exact ⟨ret_bool (by rw [hfin.out, hf2.out, decide_eq_false (by omega)]; rfl), rfl⟩

end Go.Proofs.Qxb6600397a
