/-
  THE WALK of FnTakeRateWaitIsExact, outside its own bounds.
-/
import Derived.Test.Qxb6608746aModsWkUse
import Derived.Test.Qxb6608746aModsPlainW
namespace Go.Proofs.Qxb6608746aMods
open Go.RowKit

set_option maxRecDepth 20000 in
set_option maxHeartbeats 2000000 in
/-- Outside the law's own bounds it answers true at once; within them the rest of the walk is asked. -/
theorem wait_out (l wr F Q r N now : Int) (d : Bool) (w : World) (r0 : 0 ≤ r) (r1 : r ≤ 4294967295) (R P : Int) (HR : Hid (R = r / 2)) (HP : Hid (PerIs r P))
    (hout : ¬ (1 ≤ R ∧ 1 ≤ N ∧ N ≤ 1048576 ∧ 0 ≤ now ∧ now ≤ 4611686018427387904 ∧ 0 ≤ F ∧ F ≤ 4611686018427387904 ∧ R ≤ 4611686018427387904 / P)) :
    Calls Trym.prog 4 #[.int .i64 l, .int .i64 wr, .int .i64 F, .int .u32 Q, .bool d, .int .u32 r, .int .i64 N, .int .i64 now] w fun e w' => e = .returned (.bool true) ∧ Grown w w' := by
  have HO : Hid _ := hout
  clear hout
  have hR' : R ≤ 2147483647 := by rw [HR.out]; omega
  have HPP : Hid (P = 60000000000 ∨ P = 1000000000) := by rcases HP.out with ⟨_, h⟩ | ⟨_, h⟩; exact .inl h; exact .inr h
  have p0 : 1 ≤ P := by rcases HPP.out with h | h <;> omega
  have p1 : P ≤ 60000000000 := by rcases HPP.out with h | h <;> omega
  go_enter Trym.func4, Trym.ntmps4
  go_upto_region 1 with fail
  go_cut [17] from 42 to 44 (fun s w' => s = .int .i64 R ∧ w = w')
  case first =>
    go_wp2_with fail
    go_meet
    case rel => exact ⟨by rw [HR.out], rfl⟩
  case rest =>
  obtain ⟨rfl, rfl⟩ := hcut
  by_cases c1 : 1 ≤ R
  rotate_left
  · go_wp2_with fail
    all_goals (go_ret; exact ⟨rfl, Grown.refl _⟩)
  by_cases c2 : 1 ≤ N
  rotate_left
  · go_wp2_with fail
    all_goals (go_ret; exact ⟨rfl, Grown.refl _⟩)
  by_cases c3 : N ≤ 1048576
  rotate_left
  · go_wp2_with fail
    all_goals (go_ret; exact ⟨rfl, Grown.refl _⟩)
  by_cases c4 : 0 ≤ now
  rotate_left
  · go_wp2_with fail
    all_goals (go_ret; exact ⟨rfl, Grown.refl _⟩)
  by_cases c5 : now ≤ 4611686018427387904
  rotate_left
  · go_wp2_with fail
    all_goals (go_ret; exact ⟨rfl, Grown.refl _⟩)
  by_cases c6 : 0 ≤ F
  rotate_left
  · go_wp2_with fail
    all_goals (go_ret; exact ⟨rfl, Grown.refl _⟩)
  by_cases c7 : F ≤ 4611686018427387904
  rotate_left
  · go_wp2_with fail
    all_goals (go_ret; exact ⟨rfl, Grown.refl _⟩)
  go_upto_if 71 with fail
  go_cut [18] from 42 to 71 (fun s w' => s = .int .i64 P ∧ w = w')
  case first =>
    rcases HP.out with ⟨hb, e⟩ | ⟨hb, e⟩
    all_goals
      go_wp2_with fail
      go_meet
      case rel => exact ⟨by rw [e], rfl⟩
  case rest =>
  obtain ⟨rfl, rfl⟩ := hcut
  by_cases c8 : R ≤ 4611686018427387904 / P
  rotate_left
  · go_wp2_with fail
    all_goals (go_ret; exact ⟨rfl, Grown.refl _⟩)
  exact absurd ⟨c1, c2, c3, c4, c5, c6, c7, c8⟩ HO.out
end Go.Proofs.Qxb6608746aMods
