/-
  THE WALK of FnIsLetterCaseFoldAndBitForm: 256 bytes by the kernel for the plain law, one walk for the Go text.
-/
import Derived.Test.Qxb6605982aModsWk
import Derived.Laws.BitsAllLaws
import Derived.OpenShut
namespace Go.Proofs.Qxb6605982aMods
open Go.RowKit

/-! ### THE PLAIN LAW: 256 bytes -/
theorem fold_all : ∀ n : Fin 256, letB (((n.val ^^^ 32 : Nat) : Int)) = letB (n.val : Int) ∧ decide (((((n.val ||| 32 : Nat) : Int)) - 97) % 256 < 26) = letB (n.val : Int) := by decide +kernel

theorem fold_xor (a : Int) (h1 : 0 ≤ a) (h2 : a < 256) : letB (bits .xor .u8 a 32) = letB a := by
  rw [u8_xor a 32 h1 h2 (by decide) (by decide)]
  obtain ⟨n, rfl⟩ := Int.eq_ofNat_of_zero_le h1
  exact (fold_all ⟨n, by omega⟩).1
theorem fold_or (a : Int) (h1 : 0 ≤ a) (h2 : a < 256) : decide ((bits .or .u8 a 32 - 97) % 256 < 26) = letB a := by
  rw [u8_or a 32 h1 h2 (by decide) (by decide)]
  obtain ⟨n, rfl⟩ := Int.eq_ofNat_of_zero_le h1
  exact (fold_all ⟨n, by omega⟩).2

theorem fold_walk (a0 : Int) (w0 : (Lit.int .u8 a0).wf = true) (w : World) :
    Calls Trym.prog 6 #[.int .u8 a0] w fun e w' => e = .returned (.bool true) ∧ Grown w w' := by
  obtain ⟨b1, b2⟩ := bounds_u8 w0
  have hx := fold_xor a0 b1 (by omega)
  have ho := fold_or a0 b1 (by omega)
  clear w0
  go_enter Trym.func6, Trym.ntmps6
  go_wp2_with (go_at_call 19; refine (zzIsLetter_any _ _).mono ?_; rintro e w' ⟨rfl, rfl⟩)
  go_ret
  exact ⟨rfl, Grown.refl _⟩
end Go.Proofs.Qxb6605982aMods
