/-
  Plain laws of patterns and types, on lists of bytes: no Go in sight. 42 is the star, 46 the full stop.
-/
namespace Go.Proofs.Qxb6600397a

/-- Does s end in t? -/
def sufB (s t : List UInt8) : Bool := decide (t.length ≤ s.length) && (s.drop (s.length - t.length) == t)
/-- Does s begin with t? -/
def preB (s t : List UInt8) : Bool := decide (t.length ≤ s.length) && (s.take t.length == t)

theorem sufB_le {s t : List UInt8} (h : sufB s t = true) : t.length ≤ s.length := by simp [sufB] at h; exact h.1
theorem preB_le {s t : List UInt8} (h : preB s t = true) : t.length ≤ s.length := by simp [preB] at h; exact h.1

/-- t begins with q, and what stands behind it is a full stop and more. -/
def goesOnB (t q : List UInt8) : Bool := preB t q && (decide (1 < (t.drop q.length).length) && ((t.drop q.length).getD 0 0 == 46))
def matchB (p t : List UInt8) : Bool := p == [42] || (if sufB p [46, 42] = true then goesOnB t (p.take (p.length - 2)) else p == t)

theorem preB_iff {t q : List UInt8} : preB t q = true ↔ ∃ r, t = q ++ r := by
  simp only [preB, Bool.and_eq_true, decide_eq_true_eq, beq_iff_eq]
  constructor
  · rintro ⟨_, h⟩
    exact ⟨t.drop q.length, by conv => lhs; rw [← List.take_append_drop q.length t, h]⟩
  · rintro ⟨r, rfl⟩
    simp

theorem sufB_iff {t q : List UInt8} : sufB t q = true ↔ ∃ r, t = r ++ q := by
  simp only [sufB, Bool.and_eq_true, decide_eq_true_eq, beq_iff_eq]
  constructor
  · rintro ⟨_, h⟩
    exact ⟨t.take (t.length - q.length), by conv => lhs; rw [← List.take_append_drop (t.length - q.length) t, h]⟩
  · rintro ⟨r, rfl⟩
    simp

theorem goesOn_iff {t q : List UInt8} : goesOnB t q = true ↔ ∃ r, t = q ++ 46 :: r ∧ r ≠ [] := by
  simp only [goesOnB, Bool.and_eq_true, preB_iff, decide_eq_true_eq, beq_iff_eq]
  constructor
  · rintro ⟨⟨r, rfl⟩, h1, h2⟩
    rw [List.drop_left] at h1 h2
    match r, h1, h2 with
    | x :: y :: r', _, h2 =>
      simp at h2
      exact ⟨y :: r', by rw [h2], by simp⟩
  · rintro ⟨r, rfl, hr⟩
    refine ⟨⟨_, rfl⟩, ?_⟩
    rw [List.drop_left]
    match r, hr with
    | y :: r', _ => simp

/-- A pattern of the form q.* -/
theorem match_form (q t : List UInt8) : matchB (q ++ [46, 42]) t = goesOnB t q := by
  have h1 : (q ++ [46, 42] == [42]) = false := by
    rw [beq_eq_false_iff_ne]
    intro h
    have := congrArg List.length h
    simp at this
  have h2 : sufB (q ++ [46, 42]) [46, 42] = true := sufB_iff.2 ⟨q, rfl⟩
  have h3 : (q ++ [46, 42]).take ((q ++ [46, 42]).length - 2) = q := by simp
  rw [matchB, h1, h2, h3]
  simp

theorem match_other {p t : List UInt8} (h1 : (p == [42]) = false) (h2 : sufB p [46, 42] = false) : matchB p t = (p == t) := by
  rw [matchB, h1, h2]
  simp

/-- Every string matches itself. -/
theorem match_refl (t : List UInt8) : matchB t t = true := by
  cases h2 : sufB t [46, 42] with
  | true =>
    obtain ⟨q, rfl⟩ := sufB_iff.1 h2
    rw [match_form]
    exact goesOn_iff.2 ⟨[42], by simp, by simp⟩
  | false => simp [matchB, h2]

theorem match_nest {q s t : List UInt8} (h : matchB (q ++ 46 :: s ++ [46, 42]) t = true) : matchB (q ++ [46, 42]) t = true := by
  rw [match_form] at h ⊢
  obtain ⟨r, rfl, hr⟩ := goesOn_iff.1 h
  exact goesOn_iff.2 ⟨s ++ 46 :: r, by simp, by simp⟩

theorem match_step (q s : List UInt8) : matchB (q ++ [46, 42]) (q ++ 46 :: s) = !(s == []) := by
  rw [match_form]
  cases s with
  | nil =>
    have : ¬ goesOnB (q ++ [46]) q = true := fun h => by
      obtain ⟨r, e, hr⟩ := goesOn_iff.1 h
      have := congrArg List.length e
      simp at this
      exact hr this
    simpa using this
  | cons x r => exact goesOn_iff.2 ⟨x :: r, rfl, by simp⟩

end Go.Proofs.Qxb6600397a
