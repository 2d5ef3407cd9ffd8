/-
  THE WALK of FnIsLetterExactlyTheASCIILetters.
-/
import Derived.Test.Qxb6605982aModsWk
import Derived.OpenShut
namespace Go.Proofs.Qxb6605982aMods
open Go.RowKit

/-! ### THE PLAIN LAW: the 52 letters -/
/-- The k-th letter. -/
def lt52 (k : Nat) : Int := if k < 26 then 97 + (k : Int) else 39 + (k : Int)

theorem letter_all : ∀ k : Fin 52, (((⟨#[97, 98, 99, 100, 101, 102, 103, 104, 105, 106, 107, 108, 109, 110, 111, 112, 113, 114, 115, 116, 117, 118, 119, 120, 121, 122, 65, 66, 67, 68, 69, 70, 71, 72, 73, 74, 75, 76, 77, 78, 79, 80, 81, 82, 83, 84, 85, 86, 87, 88, 89, 90]⟩ : ByteArray)[k.val]'k.isLt).toNat : Int) = lt52 k.val := by decide +kernel
theorem letter_at (k : Nat) (h : k < 52) (h' : k < (⟨#[97, 98, 99, 100, 101, 102, 103, 104, 105, 106, 107, 108, 109, 110, 111, 112, 113, 114, 115, 116, 117, 118, 119, 120, 121, 122, 65, 66, 67, 68, 69, 70, 71, 72, 73, 74, 75, 76, 77, 78, 79, 80, 81, 82, 83, 84, 85, 86, 87, 88, 89, 90]⟩ : ByteArray).size) : (((⟨#[97, 98, 99, 100, 101, 102, 103, 104, 105, 106, 107, 108, 109, 110, 111, 112, 113, 114, 115, 116, 117, 118, 119, 120, 121, 122, 65, 66, 67, 68, 69, 70, 71, 72, 73, 74, 75, 76, 77, 78, 79, 80, 81, 82, 83, 84, 85, 86, 87, 88, 89, 90]⟩ : ByteArray)[k]'h').toNat : Int) = lt52 k := letter_all ⟨k, h⟩

/-- Is c among the first k letters? -/
def seenB (c : Int) (k : Nat) : Bool := decide ((97 ≤ c ∧ c < 97 + (k : Int) ∧ c ≤ 122) ∨ (65 ≤ c ∧ c < 39 + (k : Int) ∧ c ≤ 90))

theorem seen_hit (c : Int) (k : Nat) (h : k < 52) (e : (lt52 k == c) = true) : true = seenB c (k + 1) := by
  have e' : lt52 k = c := eq_of_beq e
  subst e'
  unfold seenB lt52
  symm
  refine decide_eq_true ?_
  split <;> omega
theorem seen_miss (c : Int) (k : Nat) (h : k < 52) (e : (lt52 k == c) = false) : seenB c k = seenB c (k + 1) := by
  have e' : ¬ lt52 k = c := by simpa using e
  unfold seenB lt52 at *
  refine decide_eq_decide.2 ?_
  split at e' <;> constructor <;> intro hh <;> omega
theorem seen_all (c : Int) (k : Nat) (h : k ≤ 52) (h' : ¬ k < 52) : (letB c == seenB c k) = true := by
  have e : k = 52 := by omega
  subst e
  unfold letB seenB
  rw [beq_iff_eq]
  refine decide_eq_decide.2 ?_
  constructor <;> intro hh <;> omega
theorem some_bool {a b : Bool} (h : a = b) : Value.bool a = Value.bool b := by rw [h]

theorem ascii_walk (a0 : Int) (w0 : (Lit.int .u8 a0).wf = true) (w : World) :
    Calls Trym.prog 5 #[.int .u8 a0] w fun e w' => e = .returned (.bool true) ∧ Grown w w' := by
  obtain ⟨b1, b2⟩ := bounds_u8 w0
  clear w0
  go_enter Trym.func5, Trym.ntmps5
  go_wp2_with fail
  go_loop [3, 4] (fun s i => ∃ k : Nat, k ≤ 52 ∧ i = .int .i64 k ∧ s = .bool (seenB a0 k)) (fun _ i => 52 - (intOf i).toNat)
  case atStart => exact ⟨0, Nat.zero_le _, rfl, by unfold seenB; rw [decide_eq_false (by omega)]⟩
  case round =>
    obtain ⟨k, hk, rfl, rfl⟩ := hrel
    by_cases hlt : k < 52
    · go_wp2_with fail
      · rename_i hh
        rw [letter_at k hlt _] at hh
        have R := seen_hit a0 k hlt hh
        go_round
        case rel => exact ⟨k + 1, by omega, by go_num, some_bool R⟩
        case measure => simp [intOf]; omega
      · rename_i hh
        rw [letter_at k hlt _] at hh
        have R := seen_miss a0 k hlt hh
        go_round
        case rel => exact ⟨k + 1, by omega, by go_num, some_bool R⟩
        case measure => simp [intOf]; omega
    · have R := seen_all a0 k hk hlt
      go_wp2_with (go_at_call 19; refine (zzIsLetter_any _ _).mono ?_; rintro e w' ⟨rfl, rfl⟩)
      go_ret
      exact ⟨rfl, Grown.refl _⟩
end Go.Proofs.Qxb6605982aMods
