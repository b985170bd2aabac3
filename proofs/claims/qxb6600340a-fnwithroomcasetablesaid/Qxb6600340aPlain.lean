/-
  Plain laws for the seat: no Go in sight. (1) the bit tables of 'repeats'; (2) the progression; (3) the merge sort.
-/
namespace Go.Proofs.Qxb6600340a

/-! ### (1) the tables of 'repeats' -/
theorem and_bit (m j : Nat) : (m &&& 2 ^ j ≠ 0) ↔ m.testBit j = true := by
  constructor
  · intro h
    cases hb : m.testBit j with
    | true => rfl
    | false =>
      exfalso; apply h
      apply Nat.eq_of_testBit_eq
      intro i
      rw [Nat.testBit_and, Nat.testBit_two_pow, Nat.zero_testBit]
      by_cases e : j = i
      · subst e; simp [hb]
      · simp [e]
  · intro h e
    have := congrArg (fun x => x.testBit j) e
    simp [Nat.testBit_and, h] at this

/-- What the first loop of 'repeats' has laid down of the values 'seen'. -/
def Marks (size : Nat) (seen M T : List Nat) : Prop :=
  (∀ z ∈ M, z < 18446744073709551616) ∧ (∀ z ∈ T, z < 18446744073709551616) ∧
  (∀ v ∈ seen, (M.getD (v % size / 64) 0).testBit (v % 64) = true) ∧
  (∀ v, 2 ≤ seen.count v → (T.getD (v % size / 64) 0).testBit (v % 64) = true)

theorem marks_nil (size q : Nat) : Marks size [] (List.replicate q 0) (List.replicate q 0) := by
  refine ⟨?_, ?_, ?_, ?_⟩
  · intro z hz; have := List.eq_of_mem_replicate hz; omega
  · intro z hz; have := List.eq_of_mem_replicate hz; omega
  · intro v hv; cases hv
  · intro v hv; simp at hv

theorem getD_set (M : List Nat) (i j x : Nat) (hi : i < M.length) : (M.set i x).getD j 0 = if i = j then x else M.getD j 0 := by
  rw [List.getD_eq_getElem?_getD, List.getElem?_set, List.getD_eq_getElem?_getD]
  by_cases e : i = j
  · subst e; simp [hi]
  · simp [e]

theorem getD_lt {M : List Nat} (h : ∀ z ∈ M, z < 18446744073709551616) (i : Nat) : M.getD i 0 < 18446744073709551616 := by
  rw [List.getD_eq_getElem?_getD]
  by_cases hi : i < M.length
  · rw [List.getElem?_eq_getElem hi]; exact h _ (List.getElem_mem _)
  · rw [List.getElem?_eq_none (by omega)]; simp

theorem or_lt {a b : Nat} (ha : a < 18446744073709551616) (hb : b < 18446744073709551616) : a ||| b < 18446744073709551616 := by
  have e : (18446744073709551616 : Nat) = 2 ^ 64 := by decide
  rw [e] at ha hb ⊢
  exact Nat.or_lt_two_pow ha hb

theorem bit_lt (v : Nat) : 2 ^ (v % 64) < 18446744073709551616 := by
  have e : (18446744073709551616 : Nat) = 2 ^ 64 := by decide
  rw [e]
  exact Nat.pow_lt_pow_right (by omega) (by omega)

theorem set_lt {M : List Nat} (h : ∀ z ∈ M, z < 18446744073709551616) (i x : Nat) (hx : x < 18446744073709551616) : ∀ z ∈ M.set i x, z < 18446744073709551616 := by
  intro z hz
  rcases List.mem_or_eq_of_mem_set hz with h1 | h1
  · exact h z h1
  · omega

/-- A bit that stood stays, behind an 'or' into one word. -/
theorem keep_bit (M : List Nat) (i b j c : Nat) (hi : i < M.length) (h : (M.getD j 0).testBit c = true) : ((M.set i (M.getD i 0 ||| b)).getD j 0).testBit c = true := by
  rw [getD_set _ _ _ _ hi]
  by_cases e : i = j
  · rw [if_pos e, Nat.testBit_or, e, h]; rfl
  · rw [if_neg e]; exact h

theorem new_bit (M : List Nat) (i c : Nat) (hi : i < M.length) : ((M.set i (M.getD i 0 ||| 2 ^ c)).getD i 0).testBit c = true := by
  rw [getD_set _ _ _ _ hi, if_pos rfl, Nat.testBit_or, Nat.testBit_two_pow_self]; simp

theorem marks_hit {size : Nat} {seen M T : List Nat} {v : Nat} (h : Marks size seen M T) (hM : v % size / 64 < M.length) (hT : v % size / 64 < T.length) :
    Marks size (seen ++ [v]) (M.set (v % size / 64) (M.getD (v % size / 64) 0 ||| 2 ^ (v % 64))) (T.set (v % size / 64) (T.getD (v % size / 64) 0 ||| 2 ^ (v % 64))) := by
  obtain ⟨h1, h2, h3, h4⟩ := h
  refine ⟨set_lt h1 _ _ (or_lt (getD_lt h1 _) (bit_lt v)), set_lt h2 _ _ (or_lt (getD_lt h2 _) (bit_lt v)), ?_, ?_⟩
  · intro u hu
    rcases List.mem_append.1 hu with hu | hu
    · exact keep_bit _ _ _ _ _ hM (h3 u hu)
    · simp at hu; subst hu; exact new_bit _ _ _ hM
  · intro u hu
    by_cases e : u = v
    · subst e; exact new_bit _ _ _ hT
    · refine keep_bit _ _ _ _ _ hT (h4 u ?_)
      rw [List.count_append, List.count_cons_of_ne (fun h => e h.symm)] at hu
      simpa using hu

theorem marks_miss {size : Nat} {seen M T : List Nat} {v : Nat} (h : Marks size seen M T) (hM : v % size / 64 < M.length) (hb : (M.getD (v % size / 64) 0).testBit (v % 64) = false) :
    Marks size (seen ++ [v]) (M.set (v % size / 64) (M.getD (v % size / 64) 0 ||| 2 ^ (v % 64))) T := by
  obtain ⟨h1, h2, h3, h4⟩ := h
  refine ⟨set_lt h1 _ _ (or_lt (getD_lt h1 _) (bit_lt v)), h2, ?_, ?_⟩
  · intro u hu
    rcases List.mem_append.1 hu with hu | hu
    · exact keep_bit _ _ _ _ _ hM (h3 u hu)
    · simp at hu; subst hu; exact new_bit _ _ _ hM
  · intro u hu
    by_cases e : u = v
    · subst e
      exfalso
      rw [List.count_append, List.count_singleton_self] at hu
      have hm : u ∈ seen := List.count_pos_iff.1 (by omega)
      rw [h3 u hm] at hb; cases hb
    · refine h4 u ?_
      rw [List.count_append, List.count_cons_of_ne (fun h => e h.symm)] at hu
      simpa using hu

/-! ### the second loop of 'repeats' -/
theorem take_snoc (zs : List Nat) (k : Nat) (h : k < zs.length) : zs.take (k + 1) = zs.take k ++ [zs.getD k 0] := by
  rw [List.take_succ_eq_append_getElem h, List.getD_eq_getElem?_getD, List.getElem?_eq_getElem h]; rfl

theorem count_two {zs : List Nat} {k : Nat} (h : k < zs.length) (hm : zs.getD k 0 ∈ zs.take k) : 2 ≤ zs.count (zs.getD k 0) := by
  have e : zs = zs.take k ++ zs.getD k 0 :: zs.drop (k + 1) := by
    have := List.take_append_drop (k + 1) zs
    rw [take_snoc zs k h] at this
    simpa using this.symm
  have h1 : 1 ≤ (zs.take k).count (zs.getD k 0) := List.count_pos_iff.2 hm
  have : zs.count (zs.getD k 0) = (zs.take k).count (zs.getD k 0) + ((zs.getD k 0 :: zs.drop (k + 1)).count (zs.getD k 0)) := by
    rw [← List.count_append, ← e]
  rw [List.count_cons_self] at this
  omega

/-- A value whose bit stands in the second table. -/
def twB (size : Nat) (T : List Nat) (v : Nat) : Bool := (T.getD (v % size / 64) 0).testBit (v % 64)
/-- What the map 'seen' holds behind k rounds. -/
def seenB (size : Nat) (zs T : List Nat) (k v : Nat) : Bool := decide (v ∈ zs.take k) && twB size T v

theorem nodup_snoc {l : List Nat} {x : Nat} (h : l.Nodup) (hx : x ∉ l) : (l ++ [x]).Nodup := by
  rw [List.nodup_append]
  exact ⟨h, by simp, fun a ha b hb => by simp at hb; subst hb; intro e; exact hx (e ▸ ha)⟩

theorem step_skip {size : Nat} {zs M T : List Nat} {k : Nat} (hm : Marks size zs M T) (hk : k < zs.length) (hn : (zs.take k).Nodup) (hb : twB size T (zs.getD k 0) = false) :
    (zs.take (k + 1)).Nodup ∧ ∀ v, seenB size zs T (k + 1) v = seenB size zs T k v := by
  have hnot : zs.getD k 0 ∉ zs.take k := fun hin => by
    have := hm.2.2.2 _ (count_two hk hin)
    rw [twB, this] at hb; cases hb
  constructor
  · rw [take_snoc zs k hk]; exact nodup_snoc hn hnot
  · intro v
    unfold seenB
    rw [take_snoc zs k hk]
    by_cases e : v = zs.getD k 0
    · rw [e, hb]; simp
    · simp only [List.mem_append, List.mem_singleton, e, or_false]

theorem step_put {size : Nat} {zs T : List Nat} {k : Nat} (hk : k < zs.length) (hn : (zs.take k).Nodup) (hb : twB size T (zs.getD k 0) = true) (hs : seenB size zs T k (zs.getD k 0) = false) :
    (zs.take (k + 1)).Nodup ∧ (∀ v, v ≠ zs.getD k 0 → seenB size zs T (k + 1) v = seenB size zs T k v) ∧ seenB size zs T (k + 1) (zs.getD k 0) = true := by
  have hnot : zs.getD k 0 ∉ zs.take k := fun hin => by
    simp only [seenB, hb, Bool.and_true, decide_eq_false_iff_not] at hs; exact hs hin
  refine ⟨?_, ?_, ?_⟩
  · rw [take_snoc zs k hk]; exact nodup_snoc hn hnot
  · intro v e
    unfold seenB
    rw [take_snoc zs k hk]
    simp only [List.mem_append, List.mem_singleton, e, or_false]
  · unfold seenB
    rw [take_snoc zs k hk, hb]; simp

theorem step_dup {size : Nat} {zs T : List Nat} {k : Nat} (hk : k < zs.length) (hs : seenB size zs T k (zs.getD k 0) = true) : ¬ zs.Nodup := by
  intro hn
  simp only [seenB, Bool.and_eq_true, decide_eq_true_eq] at hs
  have h1 := count_two hk hs.1
  have h2 := List.nodup_iff_count.1 hn (zs.getD k 0)
  omega

end Go.Proofs.Qxb6600340a
