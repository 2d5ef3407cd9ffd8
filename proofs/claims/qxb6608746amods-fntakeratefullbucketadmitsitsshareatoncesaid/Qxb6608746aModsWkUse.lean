/-
  THE CONTRACTS that the two laws walk by: a keyUse that lies in a block of its own, behind the world G in which the law began.
-/
import Derived.Test.Qxb6608746aModsWkTake
namespace Go.Proofs.Qxb6608746aMods
open Go.RowKit

/-- A held rate has its period. -/
theorem perIs (r : Int) : ∃ P, PerIs r P := by
  by_cases h : (bits .and .u32 r 1 == 1) = true
  · exact ⟨_, .inl ⟨h, rfl⟩⟩
  · exact ⟨_, .inr ⟨by simpa using h, rfl⟩⟩

/-- In W, which is G with new blocks, the youngest block b holds a keyUse of these fields. -/
def KU (G W : World) (b : Nat) (l wr F Q : Int) (d : Bool) : Prop :=
  ∃ w0 n, Grown G w0 ∧ b = w0.heap.size ∧ W = (w0.alloc (.cells #[.int .i64 l, .int .i64 wr, .int .i64 F, .int .u32 Q, .bool d] 32)).drewN n

theorem KU.grown {G W : World} {b : Nat} {l wr F Q : Int} {d : Bool} (h : KU G W b l wr F Q d) : Grown G W := by
  obtain ⟨w0, n, hg, _, rfl⟩ := h
  exact hg.alloc _ _

theorem new_k (l wr F Q : Int) (d : Bool) (G W : World) (hg : Grown G W) :
    Calls Trym.prog 5 #[.int .i64 l, .int .i64 wr, .int .i64 F, .int .u32 Q, .bool d] W fun e w' => ∃ b, e = .returned (.pointer (some ⟨b, 0, none⟩)) ∧ KU G w' b l wr F Q d := by
  refine (new_any l wr F Q d W).mono ?_
  rintro e w' ⟨rfl, rfl⟩
  exact ⟨_, rfl, W, 0, hg, rfl, rfl⟩

theorem fields_k (l wr F Q : Int) (d : Bool) (G W : World) (b : Nat) (h : KU G W b l wr F Q d) :
    Calls Trym.prog 7 #[.pointer (some ⟨b, 0, none⟩)] W fun e w' => e = .returned (.tuple #[.int .i64 l, .int .i64 wr, .int .i64 F, .int .u32 Q, .bool d]) ∧ KU G w' b l wr F Q d := by
  obtain ⟨w0, n, hg, rfl, rfl⟩ := h
  refine (fields_any l wr F Q d w0 n).mono ?_
  rintro e w' ⟨rfl, n', rfl⟩
  exact ⟨rfl, w0, n', hg, rfl, rfl⟩

theorem yes_k (r R P N now l wr F Q f q : Int) (d : Bool) (G W : World) (b : Nat) (h : KU G W b l wr F Q d) (HR : Hid (R = r / 2)) (HP : Hid (PerIs r P)) (r0 : 0 ≤ r) (r1 : r ≤ 4294967295) (D : Int)
    (H : Fits R P N) (hQ : 0 ≤ Q) (hQ' : Q ≤ 4294967295) (hF : 0 ≤ F) (hF' : F ≤ 4675000000000000000) (hn : 0 ≤ now) (hn' : now ≤ 4675000000000000000)
    (HF : Hid (f = F + Q / R)) (HQ : Hid (q = Q % R)) (HD : Hid (Debt R P N f q now D))
    (F1 Q1 : Int) (hle : Hid (D ≤ room R P N)) (HF1 : Hid (F1 = now + (D + N * P) / R)) (HQ1 : Hid (Q1 = (D + N * P) % R)) :
    Calls Trym.prog 6 #[.pointer (some ⟨b, 0, none⟩), .int .u32 r, .int .i64 N, .int .i64 now] W fun e w' => e = .returned (.tuple #[.int .i64 0, .bool true]) ∧ KU G w' b l wr F1 Q1 d := by
  obtain ⟨w0, n, hg, rfl, rfl⟩ := h
  go_enter Trym.func6, Trym.ntmps6
  go_wp2_with fail
  refine (take_any r R P N now l wr F Q f q d w0 n HR HP r0 r1 D H hQ hQ' hF hF' hn hn' HF HQ HD).mono ?_
  intro e w' hor
  have hres : e = .returned (.tuple #[.int .i64 0, .bool true]) ∧ KU G w' w0.heap.size l wr F1 Q1 d := by
    rcases hor with ⟨_, he, m, hw⟩ | ⟨h2, _⟩
    · exact ⟨he, w0, m, hg, rfl, by rw [hw, HF1.out, HQ1.out]⟩
    · have := hle.out; omega
  clear hor
  obtain ⟨rfl, hk⟩ := hres
  go_wp2_with fail
  go_ret2
  exact ⟨rfl, hk⟩

theorem no_k (r R P N now l wr F Q f q : Int) (d : Bool) (G W : World) (b : Nat) (h : KU G W b l wr F Q d) (HR : Hid (R = r / 2)) (HP : Hid (PerIs r P)) (r0 : 0 ≤ r) (r1 : r ≤ 4294967295) (D : Int)
    (H : Fits R P N) (hQ : 0 ≤ Q) (hQ' : Q ≤ 4294967295) (hF : 0 ≤ F) (hF' : F ≤ 4675000000000000000) (hn : 0 ≤ now) (hn' : now ≤ 4675000000000000000)
    (HF : Hid (f = F + Q / R)) (HQ : Hid (q = Q % R)) (HD : Hid (Debt R P N f q now D))
    (W1 : Int) (hgt : Hid (room R P N < D)) (HW : Hid (W1 = (D - room R P N + R - 1) / R)) :
    Calls Trym.prog 6 #[.pointer (some ⟨b, 0, none⟩), .int .u32 r, .int .i64 N, .int .i64 now] W fun e w' => e = .returned (.tuple #[.int .i64 W1, .bool false]) ∧ KU G w' b l wr f q d := by
  obtain ⟨w0, n, hg, rfl, rfl⟩ := h
  go_enter Trym.func6, Trym.ntmps6
  go_wp2_with fail
  refine (take_any r R P N now l wr F Q f q d w0 n HR HP r0 r1 D H hQ hQ' hF hF' hn hn' HF HQ HD).mono ?_
  intro e w' hor
  have hres : e = .returned (.tuple #[.int .i64 W1, .bool false]) ∧ KU G w' w0.heap.size l wr f q d := by
    rcases hor with ⟨h2, _⟩ | ⟨_, he, m, hw⟩
    · have := hgt.out; omega
    · exact ⟨by rw [he, HW.out], w0, m, hg, rfl, hw⟩
  clear hor
  obtain ⟨rfl, hk⟩ := hres
  go_wp2_with fail
  go_ret2
  exact ⟨rfl, hk⟩
end Go.Proofs.Qxb6608746aMods
