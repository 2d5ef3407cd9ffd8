/-
  THE PLAIN LAW of FnTakeRateFullBucketAdmitsItsShareAtOnce.
-/
import Derived.Test.Qxb6608746aModsPlainW
namespace Go.Proofs.Qxb6608746aMods
open Go.RowKit
section
variable {R P N : Int}

/-- How many a full bucket admits at once. -/
def share (R N : Int) : Int := if R / N < 1 then 1 else R / N

theorem share_one (R N : Int) : 1 ≤ share R N := by unfold share; split <;> omega

/-- Up to its share: what is taken stays within the larger of the two. -/
theorem Fits.shareN (h : Fits R P N) {i : Int} (hi : i ≤ share R N) : i * N ≤ (if R < N then N else R) := by
  have hR := h.R1
  have hN := h.N1
  have h1 : i * N ≤ share R N * N := Int.mul_le_mul_of_nonneg_right hi (by omega)
  have h2 : share R N * N ≤ (if R < N then N else R) := by
    have hq := Int.ediv_mul_le R (show N ≠ 0 by omega)
    unfold share
    by_cases hRN : R / N < 1
    · rw [if_pos hRN]
      have hlt : R < N := by
        by_cases hh : R < N
        · exact hh
        · have : 1 ≤ R / N := (Int.le_ediv_iff_mul_le (by omega)).2 (by omega)
          omega
      rw [if_pos hlt]; omega
    · rw [if_neg hRN]
      have hlt : ¬ R < N := by
        intro hh
        have : R / N = 0 := Int.ediv_eq_zero_of_lt (by omega) hh
        omega
      rw [if_neg hlt]; exact hq
  omega

theorem Fits.taken0 (h : Fits R P N) {i : Int} (hi : 0 ≤ i) : 0 ≤ i * N * P :=
  Int.mul_nonneg (Int.mul_nonneg hi (by have := h.N1; omega)) (by have := h.P1; omega)

theorem Fits.takenN (h : Fits R P N) {i : Int} (hi : i ≤ share R N) : i * N ≤ 2147483647 := by
  have h1 := h.shareN hi
  have := h.R2; have := h.N2
  split at h1 <;> omega

theorem Fits.takenP (h : Fits R P N) {i : Int} (hi : i ≤ share R N) : i * N * P ≤ (if R < N then N * P else R * P) := by
  have h1 := h.shareN hi
  have hP := h.P1
  split at h1
  · rename_i hlt
    rw [if_pos hlt]; exact Int.mul_le_mul_of_nonneg_right h1 (by omega)
  · rename_i hlt
    rw [if_neg hlt]; exact Int.mul_le_mul_of_nonneg_right h1 (by omega)

theorem Fits.taken1 (h : Fits R P N) {i : Int} (hi : i ≤ share R N) : i * N * P ≤ 4611686018427387904 := by
  have h1 := h.takenP hi
  have := h.RP; have := h.NP1
  split at h1 <;> omega

theorem Fits.takenTop (h : Fits R P N) {i : Int} (hi : i ≤ share R N) : i * N * P / R ≤ top R P N := by
  have hR := h.R1
  have h1 := Int.ediv_le_ediv (c := R) (by omega) (h.takenP hi)
  unfold top
  by_cases hlt : R < N
  · rw [if_pos hlt] at h1 ⊢; exact h1
  · rw [if_neg hlt] at h1 ⊢; rw [h.RPR] at h1; exact h1

theorem taken_succ (i N P : Int) : i * N * P + N * P = (i + 1) * N * P := by
  rw [Int.add_mul, Int.add_mul, Int.one_mul]

/-- Below its share a full bucket has room. -/
theorem Fits.roomy (h : Fits R P N) {i : Int} (h0 : 0 ≤ i) (hi : i + 1 ≤ share R N) : i * N * P ≤ room R P N := by
  have hN := h.N1
  have hP := h.P1
  by_cases hz : i = 0
  · subst hz
    have := h.room0
    simpa using this
  · have h1 := h.shareN hi
    have e1 : (i + 1) * N = i * N + N := by rw [Int.add_mul]; omega
    have h2 : 1 * N ≤ i * N := Int.mul_le_mul_of_nonneg_right (by omega) (by omega)
    split at h1
    · omega
    · rw [room_pos (by omega)]
      exact Int.mul_le_mul_of_nonneg_right (by omega) (by omega)

/-- At its share it has none. -/
theorem Fits.full (h : Fits R P N) : room R P N < share R N * N * P := by
  have hR := h.R1
  have hN := h.N1
  have hP := h.P1
  by_cases hlt : N < R
  · rw [room_pos hlt]
    have h1 : 1 ≤ R / N := (Int.le_ediv_iff_mul_le (by omega)).2 (by omega)
    have e1 : share R N = R / N := by unfold share; rw [if_neg (by omega)]
    rw [e1]
    have h2 := Int.mul_ediv_add_emod R N
    have h3 := Int.emod_lt_of_pos R (show 0 < N by omega)
    have h4 : N * (R / N) = R / N * N := Int.mul_comm _ _
    exact Int.mul_lt_mul_of_pos_right (by omega) (by omega)
  · rw [room_zero hlt]
    have h1 := share_one R N
    have h2 : 1 * N ≤ share R N * N := Int.mul_le_mul_of_nonneg_right h1 (by omega)
    exact Int.mul_pos (by omega) (by omega)

/-- What a bucket owes behind i admissions at one instant. -/
theorem Fits.debt_taken (h : Fits R P N) {i now f q : Int} (h1 : 1 ≤ i) (hi : i ≤ share R N) (hf : f = now + i * N * P / R) (hq : q = i * N * P % R) : Debt R P N f q now (i * N * P) := by
  have hR := h.R1
  have hN := h.N1
  have hP := h.P1
  have ht := h.takenTop hi
  have e1 := Int.mul_ediv_add_emod (i * N * P) R
  have e2 : R * (i * N * P / R) = i * N * P / R * R := Int.mul_comm _ _
  have hpos : 0 < i * N * P := Int.mul_pos (Int.mul_pos (by omega) (by omega)) (by omega)
  have hd0 : 0 ≤ i * N * P / R := Int.ediv_nonneg (by omega) (by omega)
  have hm0 := h.rem0 (i * N * P)
  refine .inl ⟨?_, by omega, ?_⟩
  · by_cases hz : i * N * P / R = 0
    · refine .inr ⟨by omega, ?_⟩
      rw [hz, Int.mul_zero] at e1
      omega
    · exact .inl (by omega)
  · rw [show f - now = i * N * P / R from by omega, hq]
    omega
end
end Go.Proofs.Qxb6608746aMods
