/-
  Plain laws of segments: a string cut at every full stop; the documented meaning of a pattern on lists of segments agrees with 'matchB' on every type that does not end in a full stop.
-/
import Derived.Test.Qxb6600397aPlain
namespace Go.Proofs.Qxb6600397a

/-- The first segment takes one byte more. -/
def headOn (c : UInt8) : List (List UInt8) → List (List UInt8)
  | [] => [[c]]
  | h :: r => (c :: h) :: r
/-- A string cut at every full stop. -/
def segs : List UInt8 → List (List UInt8)
  | [] => [[]]
  | c :: r => if c = 46 then [] :: segs r else headOn c (segs r)
/-- Segments joined by full stops. -/
def joinD : List (List UInt8) → List UInt8
  | [] => []
  | [x] => x
  | x :: y :: r => x ++ 46 :: joinD (y :: r)

theorem headOn_append (c : UInt8) (a b : List (List UInt8)) (ha : a ≠ []) : headOn c (a ++ b) = headOn c a ++ b := by
  cases a with
  | nil => exact absurd rfl ha
  | cons x r => rfl
theorem segs_ne (l : List UInt8) : segs l ≠ [] := by
  cases l with
  | nil => simp [segs]
  | cons c r =>
    simp only [segs]
    split
    · simp
    · cases h : segs r <;> simp [headOn]
theorem segs_append : ∀ (q r : List UInt8), segs (q ++ 46 :: r) = segs q ++ segs r
  | [], r => by simp [segs]
  | c :: q, r => by
    simp only [List.cons_append, segs, segs_append q r]
    split
    · rfl
    · rw [headOn_append c _ _ (segs_ne q)]
theorem segs_plain : ∀ (x : List UInt8), (∀ c ∈ x, c ≠ 46) → segs x = [x]
  | [], _ => rfl
  | c :: x, h => by
    simp only [segs, segs_plain x (fun d hd => h d (List.mem_cons_of_mem _ hd))]
    rw [if_neg (h c (List.mem_cons_self))]
    rfl
theorem segs_cut (x r : List UInt8) (h : ∀ c ∈ x, c ≠ 46) : segs (x ++ 46 :: r) = x :: segs r := by
  rw [segs_append, segs_plain x h]; rfl

theorem join_head (c : UInt8) (L : List (List UInt8)) (h : L ≠ []) : joinD (headOn c L) = c :: joinD L := by
  match L, h with
  | [x], _ => rfl
  | x :: y :: r, _ => rfl
theorem join_segs : ∀ l : List UInt8, joinD (segs l) = l
  | [] => rfl
  | c :: r => by
    simp only [segs]
    split
    · rename_i h
      have := join_segs r
      match h2 : segs r, segs_ne r with
      | y :: s, _ =>
        rw [h2] at this
        simp only [joinD, this, List.nil_append, h]
    · rw [join_head c _ (segs_ne r), join_segs r]
theorem join_append : ∀ (a b : List (List UInt8)), a ≠ [] → b ≠ [] → joinD (a ++ b) = joinD a ++ 46 :: joinD b
  | [x], y :: b, _, _ => rfl
  | x :: z :: a, b, _, hb => by
    have := join_append (z :: a) b (by simp) hb
    simp only [List.cons_append, joinD] at this ⊢
    rw [this]; simp
  | [x], [], _, hb => absurd rfl hb
  | [], _, ha, _ => absurd rfl ha

theorem segs_inj {p t : List UInt8} : (segs p = segs t) ↔ p = t := by
  constructor
  · intro h; rw [← join_segs p, h, join_segs]
  · rintro rfl; rfl

/-- t is q, a full stop and more: just if q's segments are a true beginning of t's. -/
theorem segs_more (q t : List UInt8) : ((segs q).length < (segs t).length ∧ (segs t).take (segs q).length = segs q) ↔ ∃ r, t = q ++ 46 :: r := by
  constructor
  · rintro ⟨h1, h2⟩
    have e : segs t = segs q ++ (segs t).drop (segs q).length := by
      conv => lhs; rw [← List.take_append_drop (segs q).length (segs t), h2]
    have hne : (segs t).drop (segs q).length ≠ [] := by
      intro h
      have := congrArg List.length h
      simp at this; omega
    refine ⟨joinD ((segs t).drop (segs q).length), ?_⟩
    rw [← join_segs t]
    conv => lhs; rw [e]
    rw [join_append _ _ (segs_ne q) hne, join_segs, join_segs]
  · rintro ⟨r, rfl⟩
    rw [segs_append]
    have := segs_ne r
    have hl : 0 < (segs r).length := List.length_pos_iff.2 this
    refine ⟨by simp; omega, by simp⟩

/-- The documented meaning of a pattern. -/
def modelB (p t : List UInt8) : Bool :=
  p == [42] || (if sufB p [46, 42] = true then decide ((segs (p.take (p.length - 2))).length < (segs t).length) && ((segs t).take (segs (p.take (p.length - 2))).length == segs (p.take (p.length - 2))) else segs p == segs t)

/-- t does not end in a full stop. -/
def NoEnd (t : List UInt8) : Prop := t.getLast? ≠ some 46

theorem model_eq (p t : List UInt8) (ht : NoEnd t) : matchB p t = modelB p t := by
  cases h1 : (p == [42]) with
  | true => simp only [matchB, modelB, h1, Bool.true_or]
  | false =>
    cases h2 : sufB p [46, 42] with
    | false =>
      rw [match_other h1 h2]
      simp only [modelB, h1, h2, Bool.false_or, Bool.false_eq_true, if_false]
      rw [Bool.eq_iff_iff, beq_iff_eq, beq_iff_eq, segs_inj]
    | true =>
      have e1 : modelB p t = (decide ((segs (p.take (p.length - 2))).length < (segs t).length) && ((segs t).take (segs (p.take (p.length - 2))).length == segs (p.take (p.length - 2)))) := by
        simp only [modelB, h1, h2, Bool.false_or, if_true]
      have e2 : matchB p t = goesOnB t (p.take (p.length - 2)) := by
        simp only [matchB, h1, h2, Bool.false_or, if_true]
      rw [e1, e2]
      generalize p.take (p.length - 2) = q
      rw [Bool.eq_iff_iff, goesOn_iff, Bool.and_eq_true, decide_eq_true_eq, beq_iff_eq, segs_more]
      constructor
      · rintro ⟨r, h, _⟩; exact ⟨r, h⟩
      · rintro ⟨r, rfl⟩
        refine ⟨r, rfl, ?_⟩
        rintro rfl
        exact ht (by simp)

/-! ### the loop that cuts -/
/-- Behind i bytes, the last cut at 'start': what is gathered and what is to come make up the whole. -/
def Cut (l : List UInt8) (out : List (List UInt8)) (start i : Nat) : Prop :=
  start ≤ i ∧ i ≤ l.length ∧ out.length ≤ start ∧ segs l = out ++ segs (l.drop start) ∧ ∀ c ∈ (l.take i).drop start, c ≠ 46

theorem cut_start (l : List UInt8) : Cut l [] 0 0 := ⟨by omega, by omega, by simp, by simp, by simp⟩

theorem take_one (l : List UInt8) (start i : Nat) (hs : start ≤ i) (hi : i < l.length) : (l.take (i + 1)).drop start = (l.take i).drop start ++ [l.getD i 0] := by
  rw [List.take_succ_eq_append_getElem hi, List.drop_append_of_le_length (by rw [List.length_take]; omega)]
  simp [List.getD_eq_getElem?_getD, hi]

theorem cut_on {l : List UInt8} {out : List (List UInt8)} {start i : Nat} (h : Cut l out start i) (hi : i < l.length) (hc : l.getD i 0 ≠ 46) : Cut l out start (i + 1) := by
  obtain ⟨h1, h2, h3, h4, h5⟩ := h
  refine ⟨by omega, by omega, h3, h4, ?_⟩
  rw [take_one l start i h1 hi]
  intro c hcm
  rcases List.mem_append.1 hcm with h | h
  · exact h5 c h
  · simp at h; rw [h]
    simpa [List.getD_eq_getElem?_getD] using hc

theorem cut_dot {l : List UInt8} {out : List (List UInt8)} {start i : Nat} (h : Cut l out start i) (hi : i < l.length) (hc : l.getD i 0 = 46) : Cut l (out ++ [(l.take i).drop start]) (i + 1) (i + 1) := by
  obtain ⟨h1, h2, h3, h4, h5⟩ := h
  refine ⟨by omega, by omega, by simp; omega, ?_, ?_⟩
  · have e : l.drop start = (l.take i).drop start ++ 46 :: l.drop (i + 1) := by
      have e1 : l = l.take i ++ 46 :: l.drop (i + 1) := by
        have := List.drop_eq_getElem_cons hi
        have hg : l[i] = 46 := by simpa [List.getD_eq_getElem?_getD, hi] using hc
        rw [hg] at this
        rw [← this, List.take_append_drop]
      conv => lhs; rw [e1]
      rw [List.drop_append_of_le_length (by rw [List.length_take]; omega)]
    rw [h4, e, segs_cut _ _ h5]
    simp
  · intro c hcm
    rw [List.drop_of_length_le (by rw [List.length_take]; omega)] at hcm
    cases hcm

theorem cut_end {l : List UInt8} {out : List (List UInt8)} {start : Nat} (h : Cut l out start l.length) : segs l = out ++ [l.drop start] := by
  obtain ⟨h1, h2, h3, h4, h5⟩ := h
  rw [List.take_length] at h5
  rw [h4, segs_plain _ h5]

/-! ### the loops that compare -/
theorem take_eq_of {A : Type} [Inhabited A] [DecidableEq A] {d : A} {a b : List A} (hl : a.length ≤ b.length) (h : ∀ k, k < a.length → a.getD k d = b.getD k d) : b.take a.length = a := by
  apply List.ext_getElem?
  intro k
  rw [List.getElem?_take]
  by_cases hk : k < a.length
  · rw [if_pos hk]
    have := h k hk
    rw [List.getD_eq_getElem?_getD, List.getD_eq_getElem?_getD, List.getElem?_eq_getElem hk, List.getElem?_eq_getElem (by omega)] at this
    rw [List.getElem?_eq_getElem hk, List.getElem?_eq_getElem (by omega)]
    simp at this
    rw [this]
  · rw [if_neg hk, List.getElem?_eq_none (by omega)]

end Go.Proofs.Qxb6600397a
