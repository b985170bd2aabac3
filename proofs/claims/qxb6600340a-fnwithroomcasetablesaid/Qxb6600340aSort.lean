/-
  Plain laws of the bottom-up merge sort: one merge, one pass, all passes.
-/
import Derived.Test.Qxb6600340aPlain
namespace Go.Proofs.Qxb6600340a

/-- The elements i .. j - 1. -/
def seg (A : List Nat) (i j : Nat) : List Nat := (A.take j).drop i
def leB (a b : Nat) : Bool := decide (a ≤ b)
theorem leB_yes {a b : Nat} (h : a ≤ b) : leB a b = true := decide_eq_true h
theorem leB_no {a b : Nat} (h : ¬ a ≤ b) : ¬ leB a b = true := fun e => h (of_decide_eq_true e)
def Rise (l : List Nat) : Prop := l.Pairwise (fun a b => leB a b = true)

theorem seg_nil (A : List Nat) (i : Nat) : seg A i i = [] := by
  unfold seg; apply List.drop_eq_nil_of_le; rw [List.length_take]; omega
theorem seg_cons (A : List Nat) (i j : Nat) (hij : i < j) (hj : j ≤ A.length) : seg A i j = A.getD i 0 :: seg A (i + 1) j := by
  unfold seg
  have hi : i < (A.take j).length := by rw [List.length_take]; omega
  rw [List.drop_eq_getElem_cons hi]
  congr 1
  rw [List.getElem_take, List.getD_eq_getElem?_getD, List.getElem?_eq_getElem (by omega)]
  rfl

/-- WHAT STANDS BEHIND EACH ROUND OF A MERGE: what is written and what is to come make up the whole. -/
def Mid (A : List Nat) (lo mid hi : Nat) (X B : List Nat) (i j k : Nat) : Prop :=
  lo ≤ i ∧ i ≤ mid ∧ mid ≤ j ∧ j ≤ hi ∧ hi ≤ A.length ∧ k + mid = i + j ∧ B.length = A.length ∧ B.take k ++ (seg A i mid).merge (seg A j hi) leB = X

theorem mid_start (A B : List Nat) (lo mid hi : Nat) (h1 : lo ≤ mid) (h2 : mid ≤ hi) (h3 : hi ≤ A.length) (hB : B.length = A.length) :
    Mid A lo mid hi (B.take lo ++ (seg A lo mid).merge (seg A mid hi) leB) B lo mid lo := ⟨Nat.le_refl _, h1, Nat.le_refl _, h2, h3, rfl, hB, rfl⟩

theorem take_set_snoc' (L : List Nat) (k x : Nat) (h : k < L.length) : (L.set k x).take (k + 1) = L.take k ++ [x] := by
  rw [List.take_succ_eq_append_getElem (by simpa using h), List.getElem_set_self, List.take_set_of_le (Nat.le_refl _)]

theorem mid_left {A : List Nat} {lo mid hi : Nat} {X B : List Nat} {i j k : Nat} (h : Mid A lo mid hi X B i j k) (hi' : i < mid) (hj' : j < hi) (hle : A.getD i 0 ≤ A.getD j 0) :
    Mid A lo mid hi X (B.set k (A.getD i 0)) (i + 1) j (k + 1) := by
  obtain ⟨h1, h2, h3, h4, h5, h6, h7, h8⟩ := h
  refine ⟨by omega, by omega, h3, h4, h5, by omega, by rw [List.length_set]; exact h7, ?_⟩
  rw [take_set_snoc' _ _ _ (by omega), ← h8, seg_cons A i mid hi' (by omega), seg_cons A j hi hj' h5, List.cons_merge_cons, if_pos (leB_yes hle)]
  simp

theorem mid_right {A : List Nat} {lo mid hi : Nat} {X B : List Nat} {i j k : Nat} (h : Mid A lo mid hi X B i j k) (hi' : i < mid) (hj' : j < hi) (hle : ¬ A.getD i 0 ≤ A.getD j 0) :
    Mid A lo mid hi X (B.set k (A.getD j 0)) i (j + 1) (k + 1) := by
  obtain ⟨h1, h2, h3, h4, h5, h6, h7, h8⟩ := h
  refine ⟨h1, h2, by omega, by omega, h5, by omega, by rw [List.length_set]; exact h7, ?_⟩
  rw [take_set_snoc' _ _ _ (by omega), ← h8, seg_cons A i mid hi' (by omega), seg_cons A j hi hj' h5, List.cons_merge_cons, if_neg (leB_no hle)]
  simp

theorem mid_left_rest {A : List Nat} {lo mid hi : Nat} {X B : List Nat} {i k : Nat} (h : Mid A lo mid hi X B i hi k) (hi' : i < mid) :
    Mid A lo mid hi X (B.set k (A.getD i 0)) (i + 1) hi (k + 1) := by
  obtain ⟨h1, h2, h3, h4, h5, h6, h7, h8⟩ := h
  refine ⟨by omega, by omega, h3, h4, h5, by omega, by rw [List.length_set]; exact h7, ?_⟩
  rw [take_set_snoc' _ _ _ (by omega), ← h8, seg_cons A i mid hi' (by omega), seg_nil]
  simp

theorem mid_right_rest {A : List Nat} {lo mid hi : Nat} {X B : List Nat} {j k : Nat} (h : Mid A lo mid hi X B mid j k) (hj' : j < hi) :
    Mid A lo mid hi X (B.set k (A.getD j 0)) mid (j + 1) (k + 1) := by
  obtain ⟨h1, h2, h3, h4, h5, h6, h7, h8⟩ := h
  refine ⟨h1, h2, by omega, by omega, h5, by omega, by rw [List.length_set]; exact h7, ?_⟩
  rw [take_set_snoc' _ _ _ (by omega), ← h8, seg_cons A j hi hj' h5, seg_nil]
  simp

theorem mid_end {A : List Nat} {lo mid hi : Nat} {X B : List Nat} {k : Nat} (h : Mid A lo mid hi X B mid hi k) : k = hi ∧ B.take hi = X := by
  obtain ⟨h1, h2, h3, h4, h5, h6, h7, h8⟩ := h
  have e : k = hi := by omega
  subst e
  rw [seg_nil, seg_nil] at h8
  simpa using h8

/-! ### one pass -/
def Chunks (w : Nat) (A : List Nat) : Prop := ∀ d, Rise (seg A (d * w) ((d + 1) * w))

/-- Behind c blocks of a pass of width w over A. -/
def Pass (A : List Nat) (w : Nat) (B : List Nat) (c : Nat) : Prop :=
  B.length = A.length ∧ (B.take (c * (2 * w))).Perm (A.take (c * (2 * w))) ∧ ∀ d, d < c → Rise (seg B (d * (2 * w)) ((d + 1) * (2 * w)))

theorem pass_start (A B : List Nat) (w : Nat) (h : B.length = A.length) : Pass A w B 0 := ⟨h, by simp, fun d hd => by omega⟩

theorem take_min (A : List Nat) (x : Nat) : A.take (min x A.length) = A.take x := by
  by_cases h : x ≤ A.length
  · rw [Nat.min_eq_left h]
  · rw [Nat.min_eq_right (by omega), List.take_length, List.take_of_length_le (by omega)]

theorem rise_merge {a b : List Nat} (ha : Rise a) (hb : Rise b) : Rise (a.merge b leB) :=
  List.pairwise_merge (fun x y z h1 h2 => by simp only [leB, decide_eq_true_eq] at *; omega) (fun x y => by simp only [leB, Bool.or_eq_true, decide_eq_true_eq]; omega) a b ha hb

theorem pass_step {A B B' : List Nat} {w c lo mid hi : Nat} (hch : Chunks w A) (h : Pass A w B c) (hlo : lo = c * (2 * w)) (hlt : lo < A.length) (hmid : mid = min (lo + w) A.length) (hhi : hi = min (lo + 2 * w) A.length)
    (hB' : B'.length = A.length) (hX : B'.take hi = B.take lo ++ (seg A lo mid).merge (seg A mid hi) leB) : Pass A w B' (c + 1) := by
  obtain ⟨h1, h2, h3⟩ := h
  have hnx : (c + 1) * (2 * w) = lo + 2 * w := by rw [Nat.add_mul, ← hlo]; omega
  have t1 : B'.take ((c + 1) * (2 * w)) = B'.take hi := by rw [hnx, hhi, ← hB', take_min]
  have t2 : A.take ((c + 1) * (2 * w)) = A.take hi := by rw [hnx, hhi, take_min]
  have hlohi : lo ≤ hi := by rw [hhi]; omega
  have hlomid : lo ≤ mid := by rw [hmid]; omega
  have hmidhi : mid ≤ hi := by rw [hhi, hmid]; omega
  have hPl : (B.take lo).length = lo := by rw [List.length_take]; omega
  have t3 : B'.take lo = B.take lo := by
    have := congrArg (List.take lo) hX
    rw [List.take_take, Nat.min_eq_left hlohi, List.take_append_of_le_length (by omega), List.take_take, Nat.min_self] at this
    exact this
  refine ⟨hB', ?_, ?_⟩
  · rw [t1, t2, hX]
    have e : A.take hi = A.take lo ++ (seg A lo mid ++ seg A mid hi) := by
      unfold seg
      have e1 : A.take hi = (A.take hi).take mid ++ (A.take hi).drop mid := (List.take_append_drop _ _).symm
      have e2 : A.take mid = (A.take mid).take lo ++ (A.take mid).drop lo := (List.take_append_drop _ _).symm
      rw [List.take_take, Nat.min_eq_left hmidhi, e2, List.take_take, Nat.min_eq_left hlomid] at e1
      rw [List.append_assoc] at e1
      exact e1
    rw [e]
    refine List.Perm.append ?_ (List.merge_perm_append leB)
    rw [hlo]; exact h2
  · intro d hd
    by_cases hdc : d < c
    · have hle : (d + 1) * (2 * w) ≤ lo := by rw [hlo]; exact Nat.mul_le_mul_right _ (by omega)
      have e : B'.take ((d + 1) * (2 * w)) = B.take ((d + 1) * (2 * w)) := by
        have := congrArg (List.take ((d + 1) * (2 * w))) t3
        rw [List.take_take, List.take_take, Nat.min_eq_left hle] at this
        exact this
      have := h3 d hdc
      unfold seg at this ⊢
      rw [e]; exact this
    · have e : d = c := by omega
      subst e
      unfold seg
      rw [t1, hX, ← hlo, List.drop_append_of_le_length (by omega), List.drop_of_length_le (by omega), List.nil_append]
      apply rise_merge
      · have := hch (2 * d)
        have a1 : 2 * d * w = lo := by rw [hlo, Nat.mul_comm 2 d, Nat.mul_assoc]
        have a2 : (2 * d + 1) * w = lo + w := by rw [Nat.add_mul, a1, Nat.one_mul]
        unfold seg at this ⊢
        rw [a1, a2] at this
        rw [hmid, take_min]; exact this
      · have := hch (2 * d + 1)
        have a1 : 2 * d * w = lo := by rw [hlo, Nat.mul_comm 2 d, Nat.mul_assoc]
        have a2 : (2 * d + 1) * w = lo + w := by rw [Nat.add_mul, a1, Nat.one_mul]
        have a3 : (2 * d + 1 + 1) * w = lo + 2 * w := by rw [Nat.add_mul, a2, Nat.one_mul]; omega
        unfold seg at this ⊢
        rw [a2, a3] at this
        by_cases hm : lo + w ≤ A.length
        · have em : mid = lo + w := by rw [hmid]; omega
          rw [hhi, take_min, em]; exact this
        · have em : mid = A.length := by rw [hmid]; omega
          rw [em, List.drop_of_length_le (by rw [List.length_take]; omega)]
          exact List.Pairwise.nil

theorem pass_end {A B : List Nat} {w c : Nat} (h : Pass A w B c) (hc : A.length ≤ c * (2 * w)) : B.Perm A ∧ Chunks (w * 2) B := by
  obtain ⟨h1, h2, h3⟩ := h
  rw [List.take_of_length_le (by omega), List.take_of_length_le (by omega)] at h2
  refine ⟨h2, fun d => ?_⟩
  rw [Nat.mul_comm w 2]
  by_cases hd : d < c
  · exact h3 d hd
  · have : c * (2 * w) ≤ d * (2 * w) := Nat.mul_le_mul_right _ (by omega)
    unfold seg
    rw [List.drop_of_length_le (by rw [List.length_take]; omega)]
    exact List.Pairwise.nil

/-! ### all passes -/
theorem chunks_one (A : List Nat) : Chunks 1 A := by
  intro d
  have : (seg A (d * 1) ((d + 1) * 1)).length ≤ 1 := by unfold seg; rw [List.length_drop, List.length_take]; omega
  match h : seg A (d * 1) ((d + 1) * 1), this with
  | [], _ => exact List.Pairwise.nil
  | [x], _ => exact List.pairwise_singleton _ _
  | x :: y :: r, hl => simp at hl

theorem chunks_all {w : Nat} {A : List Nat} (h : Chunks w A) (hw : A.length ≤ w) : Rise A := by
  have := h 0
  unfold seg at this
  rw [Nat.zero_mul, Nat.zero_add, Nat.one_mul, List.drop_zero, List.take_of_length_le hw] at this
  exact this

/-! ### neighbours -/
theorem rise_nodup {A : List Nat} (h : Rise A) (hn : ∀ i, i + 1 < A.length → A.getD (i + 1) 0 ≠ A.getD i 0) : A.Nodup := by
  show A.Pairwise _
  unfold Rise at h
  rw [List.pairwise_iff_getElem] at h ⊢
  intro i j hi hj hij e
  have h1 := hn i (by omega)
  rw [List.getD_eq_getElem?_getD, List.getD_eq_getElem?_getD, List.getElem?_eq_getElem (by omega), List.getElem?_eq_getElem hi] at h1
  simp only [Option.getD_some] at h1
  have a1 := h i (i + 1) hi (by omega) (by omega)
  simp only [leB, decide_eq_true_eq] at a1
  by_cases e2 : i + 1 = j
  · subst e2; exact h1 e.symm
  · have a2 := h (i + 1) j (by omega) hj (by omega)
    simp only [leB, decide_eq_true_eq] at a2
    omega

theorem not_nodup_pair {A : List Nat} {i : Nat} (hi : i + 1 < A.length) (e : A.getD (i + 1) 0 = A.getD i 0) : ¬ A.Nodup := by
  intro h
  have h' : A.Pairwise (fun a b => a ≠ b) := h
  rw [List.pairwise_iff_getElem] at h'
  have := h' i (i + 1) (by omega) hi (by omega)
  rw [List.getD_eq_getElem?_getD, List.getD_eq_getElem?_getD, List.getElem?_eq_getElem hi, List.getElem?_eq_getElem (by omega)] at e
  exact this e.symm

end Go.Proofs.Qxb6600340a
