/-
  THE PLAIN MATHEMATICS of seat b6608584aM: spans as triples, their sizes added up. No Go in sight.
-/
import Derived.WalkKit
namespace Go.Proofs.Qxb6608584aMods
open Go.RowKit

/-- The sizes added up. -/
def tot : List (Int × Int × Int) → Int
  | [] => 0
  | x :: r => x.2.2 + tot r

theorem tot_append (a b : List (Int × Int × Int)) : tot (a ++ b) = tot a + tot b := by
  induction a with
  | nil => simp [tot]
  | cons x r ih => simp only [List.cons_append, tot, ih]; omega

theorem tot_one (x : Int × Int × Int) : tot [x] = x.2.2 := by simp [tot]

/-- The span that stands for line k. -/
def sp (zs : List Int) (k : Nat) : Int × Int × Int := ((k : Int) + 1, (k : Int), zs.getD k 0)

/-- The m spans from f on. -/
def spanL (zs : List Int) (f m : Nat) : List (Int × Int × Int) := (List.range m).map fun i => sp zs (f + i)

theorem spanL_length (zs : List Int) (f m : Nat) : (spanL zs f m).length = m := by simp [spanL]
theorem spanL_zero (zs : List Int) (f : Nat) : spanL zs f 0 = [] := rfl
theorem spanL_succ (zs : List Int) (f m : Nat) : spanL zs f (m + 1) = spanL zs f m ++ [sp zs (f + m)] := by
  simp [spanL, List.range_succ]

theorem tot_cut (zs : List Int) (a p m : Nat) : tot (spanL zs a (p + m)) = tot (spanL zs a p) + tot (spanL zs (a + p) m) := by
  induction m with
  | zero => simp [spanL_zero, tot]
  | succ m ih =>
    rw [show p + (m + 1) = (p + m) + 1 from by omega, spanL_succ, spanL_succ, tot_append, tot_append, ih, show a + (p + m) = a + p + m from by omega]
    omega

theorem wrap_add (a b : Int) : wrap64 (wrap64 a + wrap64 b) = wrap64 (a + b) := by unfold wrap64; omega
theorem wrap_add_r (a b : Int) : wrap64 (wrap64 a + b) = wrap64 (a + b) := by unfold wrap64; omega
theorem wrap_in (a : Int) (h1 : -9223372036854775808 ≤ a) (h2 : a ≤ 9223372036854775807) : wrap64 a = a := by unfold wrap64; omega
theorem wrap_zero : wrap64 0 = 0 := by unfold wrap64; omega

/-- The cells of a row of spans. -/
def spanCells : List (Int × Int × Int) → List Value
  | [] => []
  | x :: r => Value.int .i64 x.1 :: Value.int .i64 x.2.1 :: Value.int .i64 x.2.2 :: spanCells r

theorem spanCells_append (a b : List (Int × Int × Int)) : spanCells (a ++ b) = spanCells a ++ spanCells b := by
  induction a with
  | nil => rfl
  | cons x r ih => simp only [List.cons_append, spanCells, ih]

theorem spanCells_get (l : List (Int × Int × Int)) (k : Nat) (h : k < l.length) :
    (spanCells l)[k * 3]? = some (.int .i64 (l[k]'h).1) ∧ (spanCells l)[k * 3 + 1]? = some (.int .i64 (l[k]'h).2.1) ∧ (spanCells l)[k * 3 + 2]? = some (.int .i64 (l[k]'h).2.2) := by
  induction l generalizing k with
  | nil => simp at h
  | cons x r ih =>
    cases k with
    | zero => simp [spanCells]
    | succ k =>
      have := ih k (by simpa using h)
      rw [show (k + 1) * 3 = k * 3 + 3 from by omega]
      simpa [spanCells] using this

theorem tot_take_succ (l : List (Int × Int × Int)) (k : Nat) (h : k < l.length) : tot (l.take (k + 1)) = tot (l.take k) + (l[k]'h).2.2 := by
  rw [List.take_succ_eq_append_getElem h, tot_append, tot_one]

/-- The law of the cut. -/
theorem law_cut (zs : List Int) (n i : Nat) (h : i ≤ n) : wrap64 (wrap64 (tot (spanL zs 0 i)) + wrap64 (tot (spanL zs i (n - i)))) = wrap64 (tot (spanL zs 0 n)) := by
  rw [wrap_add]
  have := tot_cut zs 0 i (n - i)
  rw [show i + (n - i) = n from by omega, show 0 + i = i from by omega] at this
  rw [this]

theorem law_one (zs : List Int) (j : Nat) (h1 : -9223372036854775808 ≤ zs.getD j 0) (h2 : zs.getD j 0 ≤ 9223372036854775807) : wrap64 (tot (spanL zs j 1)) = zs.getD j 0 := by
  have e : spanL zs j 1 = [sp zs j] := by simp [spanL]
  rw [e, tot_one]
  exact wrap_in _ h1 h2

/-- The law of the span put in. -/
theorem law_put (zs : List Int) (n i : Nat) (h : i ≤ n) (a b s : Int) : wrap64 (wrap64 (tot (spanL zs 0 n)) + s) = wrap64 (tot (spanL zs 0 i ++ [(a, b, s)] ++ spanL zs i (n - i))) := by
  have := tot_cut zs 0 i (n - i)
  rw [show i + (n - i) = n from by omega, show 0 + i = i from by omega] at this
  rw [wrap_add_r, tot_append, tot_append, tot_one, this]
  congr 1
  show _ = tot (spanL zs 0 i) + s + tot (spanL zs i (n - i))
  omega
end Go.Proofs.Qxb6608584aMods
