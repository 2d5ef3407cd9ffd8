/-
  THE WALKS of seat b6608746aM: the small functions.
-/
import Derived.Test.Qxb6608746aModsProg
import Derived.WalkKit
import Derived.WalkSpells
import Derived.WalkLawsBesides
import Derived.RowKit3
import Derived.Deep.QuietTactic
import Derived.BigQuiet
import Derived.BigRegion
import Derived.OpenShut
import Derived.Deep.Draws
namespace Go.Proofs.Qxb6608746aMods
open Go.RowKit

/-- (heldRate).admissions, under a name. -/
theorem adm_v (r R : Int) (hR : Hid (R = r / 2)) (w : World) (h0 : 0 ≤ r) (h1 : r ≤ 4294967295) :
    Calls Trym.prog 9 #[.int .u32 r] w fun e w' => e = .returned (.int .i64 R) ∧ w' = w := by
  rw [hR.out]
  go_enter Trym.func9, Trym.ntmps9
  go_wp2
  go_ret
  exact ⟨rfl, rfl⟩

/-- What the lowest bit of a held rate says of its period. -/
def PerIs (r P : Int) : Prop := ((bits .and .u32 r 1 == 1) = true ∧ P = 60000000000) ∨ ((bits .and .u32 r 1 == 1) = false ∧ P = 1000000000)

/-- (heldRate).period. -/
theorem per_v (r P : Int) (hP : PerIs r P) (w : World) :
    Calls Trym.prog 10 #[.int .u32 r] w fun e w' => e = .returned (.int .i64 P) ∧ w' = w := by
  rcases hP with ⟨hb, rfl⟩ | ⟨hb, rfl⟩
  all_goals
    go_enter Trym.func10, Trym.ntmps10
    go_wp2
    go_ret
    exact ⟨rfl, rfl⟩

/-- ZZnewKeyUse: a new block. -/
theorem new_any (l wr f q : Int) (d : Bool) (w : World) :
    Calls Trym.prog 5 #[.int .i64 l, .int .i64 wr, .int .i64 f, .int .u32 q, .bool d] w fun e w' => e = .returned (.pointer (some ⟨w.heap.size, 0, none⟩)) ∧ w' = w.alloc (.cells #[.int .i64 l, .int .i64 wr, .int .i64 f, .int .u32 q, .bool d] 32) := by
  go_enter Trym.func5, Trym.ntmps5
  go_wp2
  go_ret
  exact ⟨rfl, rfl⟩

theorem drewN_drewN (w : World) (n m : Nat) : (w.drewN n).drewN m = w.drewN (n + m) := by
  simp [World.drewN, Nat.add_assoc]

/-- ZZkeyUseFields: the five fields. -/
theorem fields_any (l wr f q : Int) (d : Bool) (w : World) (n : Nat) :
    Calls Trym.prog 7 #[.pointer (some ⟨w.heap.size, 0, none⟩)] ((w.alloc (.cells #[.int .i64 l, .int .i64 wr, .int .i64 f, .int .u32 q, .bool d] 32)).drewN n) fun e w' => e = .returned (.tuple #[.int .i64 l, .int .i64 wr, .int .i64 f, .int .u32 q, .bool d]) ∧ ∃ n', w' = (w.alloc (.cells #[.int .i64 l, .int .i64 wr, .int .i64 f, .int .u32 q, .bool d] 32)).drewN n' := by
  go_enter Trym.func7, Trym.ntmps7
  go_wp2
  go_quiet (fail)
  go_wp2
  exact bodyPost_ret (v := .tuple #[.int .i64 l, .int .i64 wr, .int .i64 f, .int .u32 q, .bool d]) (by simp [results, Trym.results7, go_sem]) rfl ⟨rfl, n + nq, drewN_drewN _ _ _⟩
end Go.Proofs.Qxb6608746aMods
