/-
  Plain laws of the progression: base, base + stride, .. (mod 2^64) are all distinct where 2^49 does not divide the stride and there are at most 2^16 of them.
-/
import Derived.Test.Qxb6600340aPlain
namespace Go.Proofs.Qxb6600340a

def M64 : Nat := 18446744073709551616
theorem M64_eq : M64 = 2 ^ 64 := by decide

/-- The first k values. -/
def progL (base stride k : Nat) : List Nat := (List.range k).map (fun i => (base + i * stride) % M64)

theorem progL_length (b s k : Nat) : (progL b s k).length = k := by simp [progL]
theorem progL_lt (b s k : Nat) : ∀ z ∈ progL b s k, z < 18446744073709551616 := by
  intro z hz
  simp only [progL, List.mem_map] at hz
  obtain ⟨i, _, rfl⟩ := hz
  exact Nat.mod_lt _ (by decide)
theorem progL_succ (b s k : Nat) : progL b s (k + 1) = progL b s k ++ [(b + k * s) % M64] := by
  simp [progL, List.range_succ]

theorem step_mod (b s k : Nat) : ((b + k * s) % M64 + s) % M64 = (b + (k + 1) * s) % M64 := by
  rw [Nat.mod_add_mod, Nat.add_mul, Nat.one_mul, Nat.add_assoc]

theorem odd_coprime (m j : Nat) (h : m % 2 = 1) : (2 ^ j).Coprime m := by
  apply Nat.Coprime.pow_left
  unfold Nat.Coprime
  rw [Nat.gcd_rec, h]
  simp

theorem prog_nodup (b s t m k : Nat) (hs : s = m * 2 ^ t) (ht : t ≤ 48) (hm : m % 2 = 1) (hk : k ≤ 65536) : (progL b s k).Nodup := by
  unfold progL
  show List.Pairwise _ _
  rw [List.pairwise_map]
  have hr : List.Pairwise (fun x y => x < y) (List.range k) := List.pairwise_lt_range
  rw [List.pairwise_iff_getElem] at hr ⊢
  intro i j hi hj hij
  simp only [List.length_range] at hi hj
  simp only [List.getElem_range]
  intro e
  have h0 := Nat.sub_mod_eq_zero_of_mod_eq e.symm
  have h1 : b + j * s - (b + i * s) = (j - i) * s := by
    rw [Nat.sub_mul]; omega
  rw [h1, hs, M64_eq] at h0
  have h2 : 2 ^ 64 ∣ (j - i) * (m * 2 ^ t) := Nat.dvd_of_mod_eq_zero h0
  have h3 : 2 ^ (64 - t) * 2 ^ t ∣ ((j - i) * m) * 2 ^ t := by
    rw [← Nat.pow_add, Nat.sub_add_cancel (by omega), Nat.mul_assoc]; exact h2
  have h4 := Nat.dvd_of_mul_dvd_mul_right (Nat.pow_pos (by omega)) h3
  have h5 := Nat.Coprime.dvd_of_dvd_mul_right (odd_coprime m (64 - t) hm) h4
  have h6 : 2 ^ 16 ∣ j - i := Nat.dvd_trans (Nat.pow_dvd_pow 2 (by omega)) h5
  have h7 := Nat.le_of_dvd (by omega) h6
  omega

/-- One value once more: no longer all distinct. -/
theorem not_nodup_set (L : List Nat) (c i : Nat) (hL : L.length = c + 1) (hi : i < c) : ¬ (L.set c (L.getD i 0)).Nodup := by
  intro h
  have h' : List.Pairwise (fun x y => x ≠ y) (L.set c (L.getD i 0)) := h
  rw [List.pairwise_iff_getElem] at h'
  have := h' i c (by simp; omega) (by simp; omega) hi
  apply this
  have e : L.getD i 0 = L[i] := by
    rw [List.getD_eq_getElem?_getD, List.getElem?_eq_getElem (by omega)]; rfl
  rw [List.getElem_set_ne (by omega), List.getElem_set_self]
  exact e.symm

theorem take_set_snoc (L : List Nat) (k x : Nat) (h : k < L.length) : (L.set k x).take (k + 1) = L.take k ++ [x] := by
  rw [List.take_succ_eq_append_getElem (by simpa using h), List.getElem_set_self, List.take_set_of_le (Nat.le_refl _)]

end Go.Proofs.Qxb6600340a
