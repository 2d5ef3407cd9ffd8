/-
  THE WALKS of seat b6605982aM's own small functions: isLetter, attemptTimeout, and their thin exports.
-/
import Derived.Test.Qxb6605982aModsProg
import Derived.WalkKit
import Derived.WalkSpells
import Derived.RowKit3
namespace Go.Proofs.Qxb6605982aMods
open Go.RowKit

/-- A byte of the two ASCII alphabets. -/
def letB (c : Int) : Bool := decide ((97 ≤ c ∧ c ≤ 122) ∨ (65 ≤ c ∧ c ≤ 90))

theorem letB_yes {c : Int} (h : (97 ≤ c ∧ c ≤ 122) ∨ (65 ≤ c ∧ c ≤ 90)) : letB c = true := by
  unfold letB; exact decide_eq_true h
theorem letB_no {c : Int} (h : ¬ ((97 ≤ c ∧ c ≤ 122) ∨ (65 ≤ c ∧ c ≤ 90))) : letB c = false := by
  unfold letB; exact decide_eq_false h

theorem ret_bool {a b : Bool} (h : a = b) : Ending.returned (.bool a) = .returned (.bool b) := by rw [h]

set_option maxHeartbeats 400000 in
theorem isLetter_any (c : Int) (w : World) :
    Calls Trym.prog 36 #[.int .u8 c] w fun e w' => e = .returned (.bool (letB c)) ∧ w' = w := by
  by_cases h1 : 97 ≤ c
  · by_cases h2 : c ≤ 122
    · go_enter Trym.func36, Trym.ntmps36
      go_wp2
      go_ret
      exact ⟨ret_bool (letB_yes (by omega)).symm, rfl⟩
    · have h3 : 65 ≤ c := by omega
      have h4 : ¬ c ≤ 90 := by omega
      go_enter Trym.func36, Trym.ntmps36
      go_wp2
      go_ret
      exact ⟨ret_bool (letB_no (by omega)).symm, rfl⟩
  · by_cases h3 : 65 ≤ c
    · by_cases h4 : c ≤ 90
      · go_enter Trym.func36, Trym.ntmps36
        go_wp2
        go_ret
        exact ⟨ret_bool (letB_yes (by omega)).symm, rfl⟩
      · go_enter Trym.func36, Trym.ntmps36
        go_wp2
        go_ret
        exact ⟨ret_bool (letB_no (by omega)).symm, rfl⟩
    · go_enter Trym.func36, Trym.ntmps36
      go_wp2
      go_ret
      exact ⟨ret_bool (letB_no (by omega)).symm, rfl⟩

theorem zzIsLetter_any (c : Int) (w : World) :
    Calls Trym.prog 19 #[.int .u8 c] w fun e w' => e = .returned (.bool (letB c)) ∧ w' = w := by
  go_enter Trym.func19, Trym.ntmps19
  go_wp2_with (go_at_call 36; refine (isLetter_any _ _).mono ?_; rintro e w' ⟨rfl, rfl⟩)
  go_ret
  exact ⟨rfl, rfl⟩

/-- What attemptTimeout answers. -/
def tmo (t : Int) : Int := if 0 < t then t else 5000000000

theorem ret_int {k : IntKind} {a b : Int} (h : a = b) : Ending.returned (.int k a) = .returned (.int k b) := by rw [h]

theorem attempt_any (t : Int) (w : World) :
    Calls Trym.prog 37 #[.int .i64 t] w fun e w' => e = .returned (.int .i64 (tmo t)) ∧ w' = w := by
  by_cases h : 0 < t
  · go_enter Trym.func37, Trym.ntmps37
    go_wp2
    go_ret
    exact ⟨ret_int (if_pos h).symm, rfl⟩
  · go_enter Trym.func37, Trym.ntmps37
    go_wp2
    go_ret
    exact ⟨ret_int (if_neg (by omega)).symm, rfl⟩

theorem zzAttempt_any (t : Int) (w : World) :
    Calls Trym.prog 20 #[.int .i64 t] w fun e w' => e = .returned (.int .i64 (tmo t)) ∧ w' = w := by
  go_enter Trym.func20, Trym.ntmps20
  go_wp2_with (go_at_call 37; refine (attempt_any _ _).mono ?_; rintro e w' ⟨rfl, rfl⟩)
  go_ret
  exact ⟨rfl, rfl⟩
end Go.Proofs.Qxb6605982aMods
