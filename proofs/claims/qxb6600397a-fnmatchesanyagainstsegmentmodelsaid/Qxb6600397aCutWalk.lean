/-
  'zzEtB1Segments' (22): the segments of a string, in new memory.
-/
import Derived.Test.Qxb6600397aModel
import Derived.Maps.AppendAt
namespace Go.Proofs.Qxb6600397a
open Go.RowKit
attribute [local go_sem] extract_bytes

def strL (ss : List (List UInt8)) : List Value := ss.map (fun l => Value.string ⟨l.toArray⟩)
theorem strL_length (ss : List (List UInt8)) : (strL ss).length = ss.length := by simp [strL]
theorem strL_snoc (ss : List (List UInt8)) (x : List UInt8) : strL (ss ++ [x]) = strL ss ++ [.string ⟨x.toArray⟩] := by simp [strL]

theorem str_one (x : ByteArray) : ∀ u ∈ [Value.string x], u.oneCell' = true := by
  intro u hu
  simp at hu
  subst hu; rfl
theorem own_snoc {w : World} {B : Nat} {v : Value} {out : List (List UInt8)} {x : List UInt8} (h : w.ownsRow B 9 1 v (out.length + 1) (strL out ++ [.string ⟨x.toArray⟩])) : w.ownsRow B 9 1 v (out ++ [x]).length (strL (out ++ [x])) := by
  rw [strL_snoc, List.length_append]; exact h
theorem own_shows {w : World} {B : Nat} {v : Value} {ss : List (List UInt8)} (h : w.ownsRow B 9 1 v ss.length (strL ss)) (hne : ss ≠ []) : ∃ g c, v = .slice (some ⟨g, 0, none⟩) ss.length c ∧ SlS w (some ⟨g, 0, none⟩) ss := by
  rcases h.2 with ⟨_, h0⟩ | ⟨g, c, cur, rfl, hg, hh, _⟩
  · exact absurd (List.length_eq_zero_iff.1 h0) hne
  · refine ⟨g, c, rfl, fun _ => ⟨g, 0, rfl, (Array.getElem?_eq_some_iff.1 hh).1, fun j hj => ?_⟩⟩
    rw [Nat.zero_add, h.cellAt j (by omega)]
    simp [strL, List.getD_eq_getElem?_getD, hj]

set_option maxHeartbeats 2000000 in
theorem segments_any (l : List UInt8) (hl : l.length ≤ 1048576) (w : World) :
    Calls Try.prog 22 #[.string ⟨l.toArray⟩] w fun e w' => (∃ (g n c : Nat), e = .returned (.slice (some ⟨g, 0, none⟩) n c) ∧ n = (segs l).length ∧ SlS w' (some ⟨g, 0, none⟩) (segs l)) ∧ Below w.heap.size w w' := by
  obtain ⟨i0, hi, hz0, hz1, hz2⟩ := info_parts Try.info9
  go_enter Try.func22, Try.ntmps22
  go_wp2
  go_loopw [3, 4, 5] (fun v s i wr => ∃ (k st : Nat) (out : List (List UInt8)), k ≤ l.length ∧ st ≤ k ∧ out.length ≤ st ∧ i = .int .i64 k ∧ s = .int .i64 st ∧ wr.ownsRow w.heap.size 9 1 v out.length (strL out) ∧ Below w.heap.size w wr ∧ Hid (Cut l out st k)) (fun _ _ i _ => l.length - (intOf i).toNat)
  case atStart => exact ⟨0, 0, [], by omega, by omega, by simp, rfl, rfl, World.ownsRow_nil _ _ _ _, Below.refl _ _, cut_start l⟩
  case round =>
    obtain ⟨k, st, out, hk, hst, hol, rfl, rfl, hown, hB, HC⟩ := hrel
    by_cases hlt : k < l.length
    · have HT : Hid (∀ h : k < (⟨l.toArray⟩ : ByteArray).size, ((((⟨l.toArray⟩ : ByteArray)[k]'h).toNat : Int) == 46) = (l.getD k 0 == 46)) := fun h => byte_test l k h
      cases hd : (l.getD k 0 == 46) with
      | true =>
        have ht : ((((⟨l.toArray⟩ : ByteArray)[k]'hlt).toNat : Int) == 46) = true := by rw [HT.out hlt]; exact hd
        have HC2 : Hid (Cut l (out ++ [(l.take k).drop st]) (k + 1) (k + 1)) := cut_dot HC.out hlt (by simpa using hd)
        clear HT hd
        go_wp2_with (first
          | (at_builtin; refine wpList_append_own _ rfl _ _ 25 rfl w.heap.size 9 i0 (.string ⟨#[]⟩) 1 16 Try.underlying25 hi hz0 hz1 hz2 rfl (by decide) _ _ _ rfl (hown.alloc _) ⟨wr.heap.size, 0, none⟩ 1 1 [.string ⟨((l.take k).drop st).toArray⟩] rfl rfl (cell_one_new _ _ _) ?c2 ?c3 ?c4 ?c5 ?_)
          | fail)
        case c2 => exact str_one _
        case c3 => unfold maxLen; omega
        case c4 => omega
        case c5 => have := hB.size; simp; omega
        · intro v' w1 hown' hgrow _
          have R := own_snoc hown'
          have hB1 : Below w.heap.size w w1 := (hB.alloc hB.size _).grown hgrow (by have := hB.size; simp; omega) (fun j hj => (hown.lt j hj).1)
          clear hown' hgrow hown ht
          go_wp2
          go_roundw
          case rel => exact ⟨k + 1, k + 1, out ++ [(l.take k).drop st], by omega, by omega, by simp; omega, by go_num, by go_num, R, hB1, HC2⟩
          case measure => simp [intOf]; omega
      | false =>
        have ht : ((((⟨l.toArray⟩ : ByteArray)[k]'hlt).toNat : Int) == 46) = false := by rw [HT.out hlt]; exact hd
        have HC2 : Hid (Cut l out st (k + 1)) := cut_on HC.out hlt (by simpa using hd)
        clear HT hd
        go_wp2
        go_roundw
        case rel => exact ⟨k + 1, st, out, by omega, by omega, by omega, by go_num, rfl, hown, hB, HC2⟩
        case measure => simp [intOf]; omega
    · have HE : Hid (segs l = out ++ [l.drop st]) := by
        have := HC.out
        rw [show k = l.length by omega] at this
        exact cut_end this
      go_wp2_with (first
        | (at_builtin; refine wpList_append_own _ rfl _ _ 25 rfl w.heap.size 9 i0 (.string ⟨#[]⟩) 1 16 Try.underlying25 hi hz0 hz1 hz2 rfl (by decide) _ _ _ rfl (hown.alloc _) ⟨wr.heap.size, 0, none⟩ 1 1 [.string ⟨(l.drop st).toArray⟩] rfl rfl (cell_one_new _ _ _) ?d2 ?d3 ?d4 ?d5 ?_)
        | fail)
      case d2 => exact str_one _
      case d3 => unfold maxLen; omega
      case d4 => omega
      case d5 => have := hB.size; simp; omega
      · intro v' w1 hown' hgrow _
        have R := own_snoc hown'
        have hB1 : Below w.heap.size w w1 := (hB.alloc hB.size _).grown hgrow (by have := hB.size; simp; omega) (fun j hj => (hown.lt j hj).1)
        rw [← HE.out] at R
        clear hown' hgrow hown
        obtain ⟨g, c, rfl, hS⟩ := own_shows R (segs_ne l)
        clear R
        go_wp2
        go_ret
        exact ⟨⟨g, _, c, rfl, rfl, hS⟩, hB1⟩

end Go.Proofs.Qxb6600397a
