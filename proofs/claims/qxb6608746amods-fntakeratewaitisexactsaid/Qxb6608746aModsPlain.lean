/-
  THE PLAIN ARITHMETIC of seat b6608746aM: a bucket's debt, its room, the wait. No Go in sight.
-/
import Derived.WalkKit
namespace Go.Proofs.Qxb6608746aMods
open Go.RowKit

/-- A rate that fits: R admissions a period of P, N servers. -/
structure Fits (R P N : Int) : Prop where
  R1 : 1 ≤ R
  R2 : R ≤ 2147483647
  P1 : 1 ≤ P
  P2 : P ≤ 60000000000
  N1 : 1 ≤ N
  N2 : N ≤ 1048576
  RP : R * P ≤ 4611686018427387904

/-- What the bucket holds beyond one admission. -/
def room (R P N : Int) : Int := if N < R then (R - N) * P else 0
/-- The most whole nanoseconds that a bucket owes. -/
def top (R P N : Int) : Int := if R < N then N * P / R else P

/-- The debt of a bucket that is full at f and q/R, at now. -/
def Debt (R P N f q now D : Int) : Prop :=
  ((now < f ∨ (f = now ∧ 0 < q)) ∧ f - now ≤ top R P N ∧ D = (f - now) * R + q) ∨ (¬ (now < f ∨ (f = now ∧ 0 < q)) ∧ D = 0)

section
variable {R P N : Int}

theorem Fits.RP0 (h : Fits R P N) : 0 ≤ R * P := Int.mul_nonneg (by have := h.R1; omega) (by have := h.P1; omega)
theorem Fits.NP0 (h : Fits R P N) : 0 ≤ N * P := Int.mul_nonneg (by have := h.N1; omega) (by have := h.P1; omega)
theorem Fits.NP1 (h : Fits R P N) : N * P ≤ 62914560000000000 := by
  have h1 : N * P ≤ 1048576 * P := Int.mul_le_mul_of_nonneg_right h.N2 (by have := h.P1; omega)
  have := h.P2
  omega
theorem Fits.NPpos (h : Fits R P N) : P ≤ N * P := by
  have h1 : 1 * P ≤ N * P := Int.mul_le_mul_of_nonneg_right h.N1 (by have := h.P1; omega)
  omega
theorem Fits.RPR (h : Fits R P N) : R * P / R = P := Int.mul_ediv_cancel_left _ (by have := h.R1; omega)
theorem Fits.NPR0 (h : Fits R P N) : 0 ≤ N * P / R := Int.ediv_nonneg h.NP0 (by have := h.R1; omega)
theorem Fits.NPR1 (h : Fits R P N) : N * P / R ≤ N * P := Int.ediv_le_self _ h.NP0
theorem Fits.top0 (h : Fits R P N) : 0 ≤ top R P N := by
  unfold top; split
  · exact h.NPR0
  · have := h.P1; omega
theorem Fits.top1 (h : Fits R P N) : top R P N ≤ 62914560000000000 := by
  unfold top; split
  · have := h.NPR1; have := h.NP1; omega
  · have := h.P2; omega
theorem Fits.topR (h : Fits R P N) : top R P N * R ≤ 4611686018427387904 := by
  unfold top; split
  · have := Int.ediv_mul_le (N * P) (show R ≠ 0 by have := h.R1; omega); have := h.NP1; omega
  · rw [Int.mul_comm]; exact h.RP
theorem Fits.owed0 (h : Fits R P N) {x : Int} (hx : 0 ≤ x) : 0 ≤ x * R := Int.mul_nonneg hx (by have := h.R1; omega)
theorem Fits.owed1 (h : Fits R P N) {x : Int} (hx : x ≤ top R P N) : x * R ≤ 4611686018427387904 := by
  have h1 : x * R ≤ top R P N * R := Int.mul_le_mul_of_nonneg_right hx (by have := h.R1; omega)
  have := h.topR
  omega
theorem Fits.room0 (h : Fits R P N) : 0 ≤ room R P N := by
  unfold room; split
  · exact Int.mul_nonneg (by omega) (by have := h.P1; omega)
  · omega
theorem room_pos (hN : N < R) : room R P N = (R - N) * P := if_pos hN
theorem room_zero (hN : ¬ N < R) : room R P N = 0 := if_neg hN
theorem Fits.roomNP (h : Fits R P N) : room R P N + N * P ≤ 4611686018427387904 := by
  unfold room; split
  · rw [Int.sub_mul]; have := h.RP; omega
  · have := h.NP1; omega
theorem Fits.room1 (h : Fits R P N) : room R P N ≤ 4611686018427387904 := by
  have := h.roomNP; have := h.NP0; omega
/-- What is owed behind an admission, in whole nanoseconds. -/
theorem Fits.next1 (h : Fits R P N) {D : Int} (hD : D ≤ room R P N) : (D + N * P) / R ≤ 62914560000000000 := by
  have hR := h.R1
  have h1 : (D + N * P) / R ≤ (room R P N + N * P) / R := Int.ediv_le_ediv (by omega) (by omega)
  have h2 : (room R P N + N * P) / R ≤ 62914560000000000 := by
    unfold room; split
    · rw [Int.sub_mul, show R * P - N * P + N * P = R * P from by omega, h.RPR]; have := h.P2; omega
    · have := h.NPR1; have := h.NP1
      rw [Int.zero_add]; omega
  omega
theorem Fits.next0 (h : Fits R P N) {D : Int} (hD : 0 ≤ D) : 0 ≤ (D + N * P) / R := Int.ediv_nonneg (by have := h.NP0; omega) (by have := h.R1; omega)
theorem Fits.rem0 (h : Fits R P N) (x : Int) : 0 ≤ x % R := Int.emod_nonneg _ (by have := h.R1; omega)
theorem Fits.rem1 (h : Fits R P N) (x : Int) : x % R < R := Int.emod_lt_of_pos _ (by have := h.R1; omega)

theorem Debt.nonneg (h : Fits R P N) {f q now D : Int} (hq : 0 ≤ q) (hD : Debt R P N f q now D) : 0 ≤ D := by
  rcases hD with ⟨h1, h2, rfl⟩ | ⟨_, rfl⟩
  · have := h.owed0 (x := f - now) (by omega)
    omega
  · omega
theorem Debt.le (h : Fits R P N) {f q now D : Int} (hq' : q < R) (hD : Debt R P N f q now D) : D ≤ 4611686018427387904 + 2147483647 := by
  rcases hD with ⟨h1, h2, rfl⟩ | ⟨_, rfl⟩
  · have := h.owed1 (x := f - now) h2
    have := h.R2
    omega
  · omega
end
end Go.Proofs.Qxb6608746aMods
