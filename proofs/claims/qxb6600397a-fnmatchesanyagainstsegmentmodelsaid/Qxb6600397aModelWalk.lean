/-
  'zzEtB1MatchModel' (11): it answers 'modelB'.
-/
import Derived.Test.Qxb6600397aCutWalk
namespace Go.Proofs.Qxb6600397a
open Go.RowKit
attribute [local go_sem] extract_bytes

theorem SlS.drawn {w : World} {a : Option Addr} {ss : List (List UInt8)} (h : SlS w a ss) (n : Nat) : SlS (w.drewN n) a ss := h.below (below_drewN (Below.refl w.heap.size w) n) (Nat.le_refl _)

/-- a's elements are the first of b's. -/
def Same (a b : List (List UInt8)) (k : Nat) : Prop := ∀ j, j < k → a.getD j [] = b.getD j []

theorem model_star {p t : List UInt8} (h : (p == [42]) = true) : modelB p t = true := by simp only [modelB, h, Bool.true_or]
theorem model_form {p t : List UInt8} (h1 : (p == [42]) = false) (h2 : sufB p [46, 42] = true) : modelB p t = (decide ((segs (p.take (p.length - 2))).length < (segs t).length) && ((segs t).take (segs (p.take (p.length - 2))).length == segs (p.take (p.length - 2)))) := by
  simp only [modelB, h1, h2, Bool.false_or, if_true]
theorem model_else {p t : List UInt8} (h1 : (p == [42]) = false) (h2 : sufB p [46, 42] = false) : modelB p t = (segs p == segs t) := by
  simp only [modelB, h1, h2, Bool.false_or, Bool.false_eq_true, if_false]

theorem form_yes {a b : List (List UInt8)} (hl : a.length < b.length) (h : Same a b a.length) : (decide (a.length < b.length) && (b.take a.length == a)) = true := by
  rw [decide_eq_true hl, Bool.true_and, beq_iff_eq]
  exact take_eq_of (d := []) (by omega) h
theorem form_short {a b : List (List UInt8)} (hl : ¬ a.length < b.length) : (decide (a.length < b.length) && (b.take a.length == a)) = false := by
  rw [decide_eq_false hl, Bool.false_and]
theorem form_no {a b : List (List UInt8)} {k : Nat} (hk : k < a.length) (h : a.getD k [] ≠ b.getD k []) : (decide (a.length < b.length) && (b.take a.length == a)) = false := by
  rw [Bool.and_eq_false_iff]
  right
  rw [beq_eq_false_iff_ne]
  intro e
  apply h
  have : (b.take a.length).getD k [] = a.getD k [] := by rw [e]
  rw [← this]
  simp [List.getD_eq_getElem?_getD, hk]
theorem eq_yes {a b : List (List UInt8)} (hl : a.length = b.length) (h : Same a b a.length) : (a == b) = true := by
  rw [beq_iff_eq]
  have := take_eq_of (d := []) (Nat.le_of_eq hl) h
  rw [List.take_of_length_le (by omega)] at this
  exact this.symm
theorem eq_short {a b : List (List UInt8)} (hl : a.length ≠ b.length) : (a == b) = false := by
  rw [beq_eq_false_iff_ne]
  intro e; exact hl (by rw [e])
theorem eq_no {a b : List (List UInt8)} {k : Nat} (h : a.getD k [] ≠ b.getD k []) : (a == b) = false := by
  rw [beq_eq_false_iff_ne]
  intro e; exact h (by rw [e])
theorem segs_le (l : List UInt8) : (segs l).length ≤ l.length + 1 := by
  have : ∀ (c : UInt8) (L : List (List UInt8)), (headOn c L).length ≤ L.length + 1 := fun c L => by cases L <;> simp [headOn]
  induction l with
  | nil => simp [segs]
  | cons c r ih =>
    simp only [segs]
    split
    · simp; omega
    · have h1 : ∀ L : List (List UInt8), L ≠ [] → (headOn c L).length = L.length := fun L hL => by cases L <;> simp [headOn] at hL ⊢
      rw [h1 _ (segs_ne r)]; simp; omega

set_option maxHeartbeats 2000000 in
theorem model_any (p t : List UInt8) (hp : p.length ≤ 1048576) (ht : t.length ≤ 1048576) (w : World) :
    Calls Try.prog 11 #[.string ⟨p.toArray⟩, .string ⟨t.toArray⟩] w fun e w' => e = .returned (.bool (modelB p t)) ∧ Below w.heap.size w w' := by
  cases h1 : (p == [42]) with
  | true =>
    have HF : Hid (modelB p t = true) := model_star h1
    go_enter Try.func11, Try.ntmps11
    go_wp2
    go_ret
    exact ⟨ret_bool HF.out.symm, Below.refl _ _⟩
  | false =>
    have hsl := segs_le t
    cases h2 : sufB p [46, 42] with
    | true =>
      obtain ⟨q, hq⟩ : ∃ q, q = p.take (p.length - 2) := ⟨_, rfl⟩
      have hql : q.length ≤ 1048576 := by rw [hq]; simp; omega
      have Hq : Hid (p.take (p.length - 2) = q) := hq.symm
      have HF : Hid (modelB p t = (decide ((segs q).length < (segs t).length) && ((segs t).take (segs q).length == segs q))) := by rw [hq]; exact model_form h1 h2
      clear hq
      have hsq := segs_le q
      go_enter Try.func11, Try.ntmps11
      go_wp2_with fail
      refine (segments_any t ht _).mono ?_
      rintro e w1 ⟨⟨g1, n1, c1, rfl, hn1, hS1⟩, hB1⟩
      have Hn1 : Hid (n1 = (segs t).length) := hn1
      have b1 : n1 ≤ 1048577 := by omega
      clear hn1
      go_wp2_with fail
      refine (prefixForm_yes p (by omega) h2 _).mono ?_
      rintro e w' ⟨rfl, hw⟩
      subst hw
      rw [Hq.out]
      go_wp2_with fail
      refine (segments_any q hql _).mono ?_
      rintro e w2 ⟨⟨g2, n2, c2, rfl, hn2, hS2⟩, hB2⟩
      have Hn2 : Hid (n2 = (segs q).length) := hn2
      have b2 : n2 ≤ 1048577 := by omega
      have hS1' := hS1.below hB2 (Nat.le_refl _)
      have hB : Below w.heap.size w w2 := hB1.trans (hB2.mono hB1.size)
      clear hn2 hS1 hB1 hB2 hsl hsq
      by_cases hlen : n2 < n1
      · go_wp2
        go_loopw [9] (fun i wr => ∃ k : Nat, k ≤ n2 ∧ i = .int .i64 k ∧ SlS wr (some ⟨g1, 0, none⟩) (segs t) ∧ SlS wr (some ⟨g2, 0, none⟩) (segs q) ∧ Below w.heap.size w wr ∧ Hid (Same (segs q) (segs t) k)) (fun i _ => n2 - (intOf i).toNat)
        case atStart => exact ⟨0, by omega, rfl, hS1', hS2, hB, fun j hj => by omega⟩
        case round =>
          clear hS1' hS2 hB
          obtain ⟨k, hk, rfl, hS1, hS2, hB, HE⟩ := hrel
          by_cases hlt : k < n2
          · obtain ⟨b, off, he, _, hc⟩ := hS1 (by rw [← Hn1.out]; omega)
            obtain ⟨rfl, rfl⟩ : g1 = b ∧ 0 = off := by simpa using he
            obtain ⟨b', off', he', _, hc'⟩ := hS2 (by rw [← Hn2.out]; omega)
            obtain ⟨rfl, rfl⟩ : g2 = b' ∧ 0 = off' := by simpa using he'
            have hx := hc k (by rw [← Hn1.out]; omega)
            have hy := hc' k (by rw [← Hn2.out]; omega)
            rw [Nat.zero_add] at hx hy
            clear hc hc' he he'
            obtain ⟨x, hxe⟩ : ∃ x, x = (segs t).getD k [] := ⟨_, rfl⟩
            obtain ⟨y, hye⟩ : ∃ x, x = (segs q).getD k [] := ⟨_, rfl⟩
            rw [← hxe] at hx
            rw [← hye] at hy
            have Hx : Hid (x = (segs t).getD k []) := hxe
            have Hy : Hid (y = (segs q).getD k []) := hye
            clear hxe hye
            have t1 : (k : Int) < n1 := by omega
            have t2 : (k : Int) < n2 := by omega
            go_wp2
            go_quiet (fail)
            go_wp2
            · have hne : (!y == x) = true := by assumption
              have hf : Hid (modelB p t = false) := by
                unfold Hid; rw [HF.out]
                exact form_no (k := k) (by rw [← Hn2.out]; exact hlt) (by rw [← Hx.out, ← Hy.out]; simpa using hne)
              go_ret
              exact ⟨ret_bool hf.out.symm, below_drewN hB _⟩
            · have hne : (!y == x) = false := by assumption
              have HE2 : Hid (Same (segs q) (segs t) (k + 1)) := fun j hj => by
                by_cases e : j = k
                · subst e; rw [← Hx.out, ← Hy.out]; simpa using hne
                · exact HE.out j (by omega)
              go_roundw
              case rel => exact ⟨k + 1, by omega, by go_num, hS1.drawn _, hS2.drawn _, below_drewN hB _, HE2⟩
              case measure => simp [intOf]; omega
          · have hf : Hid (modelB p t = true) := by
              unfold Hid; rw [HF.out]
              refine form_yes (by rw [← Hn1.out, ← Hn2.out]; exact hlen) ?_
              rw [← Hn2.out, show n2 = k by omega]; exact HE.out
            go_wp2
            go_ret
            exact ⟨ret_bool hf.out.symm, hB⟩
      · have hf : Hid (modelB p t = false) := by
          unfold Hid; rw [HF.out]
          exact form_short (by rw [← Hn1.out, ← Hn2.out]; exact hlen)
        go_wp2
        go_ret
        exact ⟨ret_bool hf.out.symm, hB⟩
    | false =>
      have HF : Hid (modelB p t = (segs p == segs t)) := model_else h1 h2
      have hsq := segs_le p
      go_enter Try.func11, Try.ntmps11
      go_wp2_with fail
      refine (segments_any t ht _).mono ?_
      rintro e w1 ⟨⟨g1, n1, c1, rfl, hn1, hS1⟩, hB1⟩
      have Hn1 : Hid (n1 = (segs t).length) := hn1
      have b1 : n1 ≤ 1048577 := by omega
      clear hn1
      go_wp2_with fail
      refine (prefixForm_no p (by omega) h2 _).mono ?_
      rintro e w' ⟨rfl, hw⟩
      subst hw
      go_wp2_with fail
      refine (segments_any p hp _).mono ?_
      rintro e w2 ⟨⟨g2, n2, c2, rfl, hn2, hS2⟩, hB2⟩
      have Hn2 : Hid (n2 = (segs p).length) := hn2
      have b2 : n2 ≤ 1048577 := by omega
      have hS1' := hS1.below hB2 (Nat.le_refl _)
      have hB : Below w.heap.size w w2 := hB1.trans (hB2.mono hB1.size)
      clear hn2 hS1 hB1 hB2 hsl hsq
      by_cases hlen : n2 = n1
      · subst hlen
        go_wp2
        go_loopw [11] (fun i wr => ∃ k : Nat, k ≤ n2 ∧ i = .int .i64 k ∧ SlS wr (some ⟨g1, 0, none⟩) (segs t) ∧ SlS wr (some ⟨g2, 0, none⟩) (segs p) ∧ Below w.heap.size w wr ∧ Hid (Same (segs p) (segs t) k)) (fun i _ => n2 - (intOf i).toNat)
        case atStart => exact ⟨0, by omega, rfl, hS1', hS2, hB, fun j hj => by omega⟩
        case round =>
          clear hS1' hS2 hB
          obtain ⟨k, hk, rfl, hS1, hS2, hB, HE⟩ := hrel
          by_cases hlt : k < n2
          · obtain ⟨b, off, he, _, hc⟩ := hS1 (by rw [← Hn1.out]; omega)
            obtain ⟨rfl, rfl⟩ : g1 = b ∧ 0 = off := by simpa using he
            obtain ⟨b', off', he', _, hc'⟩ := hS2 (by rw [← Hn2.out]; omega)
            obtain ⟨rfl, rfl⟩ : g2 = b' ∧ 0 = off' := by simpa using he'
            have hx := hc k (by rw [← Hn1.out]; omega)
            have hy := hc' k (by rw [← Hn2.out]; omega)
            rw [Nat.zero_add] at hx hy
            clear hc hc' he he'
            obtain ⟨x, hxe⟩ : ∃ x, x = (segs t).getD k [] := ⟨_, rfl⟩
            obtain ⟨y, hye⟩ : ∃ x, x = (segs p).getD k [] := ⟨_, rfl⟩
            rw [← hxe] at hx
            rw [← hye] at hy
            have Hx : Hid (x = (segs t).getD k []) := hxe
            have Hy : Hid (y = (segs p).getD k []) := hye
            clear hxe hye
            have t2 : (k : Int) < n2 := by omega
            go_wp2
            go_quiet (fail)
            go_wp2
            · have hne : (!y == x) = true := by assumption
              have hf : Hid (modelB p t = false) := by
                unfold Hid; rw [HF.out]
                exact eq_no (k := k) (by rw [← Hx.out, ← Hy.out]; simpa using hne)
              go_ret
              exact ⟨ret_bool hf.out.symm, below_drewN hB _⟩
            · have hne : (!y == x) = false := by assumption
              have HE2 : Hid (Same (segs p) (segs t) (k + 1)) := fun j hj => by
                by_cases e : j = k
                · subst e; rw [← Hx.out, ← Hy.out]; simpa using hne
                · exact HE.out j (by omega)
              go_roundw
              case rel => exact ⟨k + 1, by omega, by go_num, hS1.drawn _, hS2.drawn _, below_drewN hB _, HE2⟩
              case measure => simp [intOf]; omega
          · have hf : Hid (modelB p t = true) := by
              unfold Hid; rw [HF.out]
              refine eq_yes (by rw [← Hn1.out, ← Hn2.out]) ?_
              rw [← Hn2.out, show n2 = k by omega]; exact HE.out
            go_wp2
            go_ret
            exact ⟨ret_bool hf.out.symm, hB⟩
      · have hf : Hid (modelB p t = false) := by
          unfold Hid; rw [HF.out]
          exact eq_short (by rw [← Hn1.out, ← Hn2.out]; exact hlen)
        have hq : ((n2 : Int) == (n1 : Int)) = false := by rw [beq_eq_false_iff_ne]; omega
        go_wp2
        go_ret
        exact ⟨ret_bool hf.out.symm, hB⟩

end Go.Proofs.Qxb6600397a
