/-
  THE PLAIN LAW of FnTakeRateWaitIsExact.
-/
import Derived.Test.Qxb6608746aModsPlain
namespace Go.Proofs.Qxb6608746aMods
open Go.RowKit
section
variable {R P N : Int}

theorem fits_of (h1 : 1 ≤ R) (h2 : R ≤ 2147483647) (hP : P = 60000000000 ∨ P = 1000000000) (n1 : 1 ≤ N) (n2 : N ≤ 1048576) (hle : R ≤ 4611686018427387904 / P) : Fits R P N := by
  refine ⟨h1, h2, by omega, by omega, n1, n2, ?_⟩
  exact (Int.le_ediv_iff_mul_le (by omega)).1 hle

theorem Fits.most (h : Fits R P N) : (if P < N * P / R then N * P / R else P) = top R P N := by
  have hR := h.R1
  have hP := h.P1
  unfold top
  by_cases hNR : R < N
  · rw [if_pos hNR]
    have h1 : R * P ≤ N * P := Int.mul_le_mul_of_nonneg_right (by omega) (by omega)
    have h2 : R * P / R ≤ N * P / R := Int.ediv_le_ediv (by omega) h1
    rw [h.RPR] at h2
    split <;> omega
  · rw [if_neg hNR]
    have h1 : N * P ≤ R * P := Int.mul_le_mul_of_nonneg_right (by omega) (by omega)
    have h2 : N * P / R ≤ R * P / R := Int.ediv_le_ediv (by omega) h1
    rw [h.RPR] at h2
    split <;> omega

theorem Fits.mul_div (h : Fits R P N) (x y : Int) : (x * R + y) / R = x + y / R := by
  rw [Int.add_comm, Int.add_mul_ediv_right _ _ (by have := h.R1; omega)]
  omega
theorem Fits.mul_mod (h : Fits R P N) (x y : Int) : (x * R + y) % R = y % R := by
  have := h.R1
  rw [Int.add_comm, Int.add_mul_emod_self_right]

/-- The wait: the least W such that W * R covers E. -/
theorem Fits.ceil (h : Fits R P N) {E W : Int} (hE : 1 ≤ E) (hW : W = (E + R - 1) / R) : 1 ≤ W ∧ (W - 1) * R < E ∧ E ≤ W * R := by
  have hR := h.R1
  have h1 := Int.mul_ediv_add_emod (E + R - 1) R
  have h2 := h.rem0 (E + R - 1)
  have h3 := h.rem1 (E + R - 1)
  rw [← hW] at h1
  have h4 : R * W = W * R := Int.mul_comm _ _
  have h5 : (W - 1) * R = W * R - R := by rw [Int.sub_mul]; omega
  have h6 : 1 ≤ W := by
    rw [hW]
    exact (Int.le_ediv_iff_mul_le (by omega)).2 (by omega)
  refine ⟨h6, by omega, by omega⟩

/-- The wait is no longer than a bucket can owe. -/
theorem Fits.wait_le (h : Fits R P N) {D W : Int} (hD : D < (top R P N + 1) * R) (hT : room R P N < D) (hW : W = (D - room R P N + R - 1) / R) : W ≤ top R P N + 1 := by
  have hR := h.R1
  obtain ⟨c1, c2, c3⟩ := h.ceil (E := D - room R P N) (by omega) hW
  have hT0 := h.room0
  by_cases hlt : W ≤ top R P N + 1
  · exact hlt
  · have : (top R P N + 1) * R ≤ (W - 1) * R := Int.mul_le_mul_of_nonneg_right (by omega) (by omega)
    omega

theorem Debt.lt_top (h : Fits R P N) {f q now D : Int} (hq' : q < R) (hD : Debt R P N f q now D) : D < (top R P N + 1) * R := by
  have hR := h.R1
  have ht := h.top0
  have h0 : (top R P N + 1) * R = top R P N * R + R := by rw [Int.add_mul]; omega
  rcases hD with ⟨h1, h2, rfl⟩ | ⟨_, rfl⟩
  · have h3 : (f - now) * R ≤ top R P N * R := Int.mul_le_mul_of_nonneg_right h2 (by omega)
    omega
  · have h3 : 0 ≤ top R P N * R := Int.mul_nonneg ht (by omega)
    omega

/-- A bucket that is refused owes. -/
theorem Debt.owes (h : Fits R P N) {f q now D : Int} (hD : Debt R P N f q now D) (hT : room R P N < D) : (now < f ∨ (f = now ∧ 0 < q)) ∧ f - now ≤ top R P N ∧ D = (f - now) * R + q := by
  have := h.room0
  rcases hD with h1 | ⟨_, rfl⟩
  · exact h1
  · omega

/-- One nanosecond before the wait is over the bucket still owes too much, by no more than R. -/
theorem Debt.before (h : Fits R P N) {f q now D W : Int} (hq' : q < R) (hD : Debt R P N f q now D) (hT : room R P N < D) (hW : W = (D - room R P N + R - 1) / R) :
    Debt R P N f q (now + W - 1) (D - (W - 1) * R) ∧ room R P N < D - (W - 1) * R ∧ (D - (W - 1) * R - room R P N + R - 1) / R = 1 := by
  have hR := h.R1
  have hT0 := h.room0
  obtain ⟨c1, c2, c3⟩ := h.ceil (E := D - room R P N) (by omega) hW
  obtain ⟨o1, o2, o3⟩ := hD.owes h hT
  have e1 : (f - (now + W - 1)) * R + q = D - (W - 1) * R := by
    rw [o3, show f - (now + W - 1) = (f - now) - (W - 1) from by omega, Int.sub_mul (f - now) (W - 1) R]
    omega
  have e5 : (W - 1) * R = W * R - R := by rw [Int.sub_mul]; omega
  refine ⟨.inl ⟨?_, by omega, e1.symm⟩, by omega, ?_⟩
  · by_cases hlt : now + W - 1 < f
    · exact .inl hlt
    · refine .inr ?_
      by_cases heq : f = now + W - 1
      · refine ⟨heq, ?_⟩
        rw [show f - (now + W - 1) = 0 from by omega, Int.zero_mul] at e1
        omega
      · exfalso
        have : (f - (now + W - 1)) * R ≤ (-1) * R := Int.mul_le_mul_of_nonneg_right (by omega) (by omega)
        omega
  · have a1 : 1 ≤ (D - (W - 1) * R - room R P N + R - 1) / R := (Int.le_ediv_iff_mul_le (by omega)).2 (by omega)
    have a2 : (D - (W - 1) * R - room R P N + R - 1) / R < 2 := (Int.ediv_lt_iff_lt_mul (by omega)).2 (by omega)
    omega

/-- When the wait is over the bucket owes no more than its room. -/
theorem Debt.after (h : Fits R P N) {f q now D W : Int} (hD : Debt R P N f q now D) (hT : room R P N < D) (hW : W = (D - room R P N + R - 1) / R) :
    ∃ D2, Debt R P N f q (now + W) D2 ∧ D2 ≤ room R P N := by
  have hR := h.R1
  have hT0 := h.room0
  obtain ⟨c1, c2, c3⟩ := h.ceil (E := D - room R P N) (by omega) hW
  obtain ⟨o1, o2, o3⟩ := hD.owes h hT
  by_cases ho : now + W < f ∨ (f = now + W ∧ 0 < q)
  · refine ⟨_, .inl ⟨ho, by omega, rfl⟩, ?_⟩
    have e1 : (f - (now + W)) * R + q = D - W * R := by
      rw [o3, show f - (now + W) = (f - now) - W from by omega, Int.sub_mul (f - now) W R]
      omega
    omega
  · exact ⟨0, .inr ⟨ho, rfl⟩, hT0⟩
end
end Go.Proofs.Qxb6608746aMods
