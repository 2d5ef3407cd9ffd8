/-
  THE ARGUMENTS OPENED: a slice of words, a slice of entries, out of the form's own reading.
-/
import Derived.Test.Qxb6617096aModsProg
import Derived.Test.Qxb6617096aModsMem
import Derived.ProofKit
import Derived.OpenShut
import Derived.Deep.Slices
import Derived.Deep.Strs
namespace Go.Proofs.Qxb6617096aMods
open Go.ChangeShapes Go.WideShapes Go.ChangeAt Go.RowKit Go.Deep

theorem Trym.cells5 : Trym.prog.cellsOf 5 = 1 := by kernel_rfl
theorem Trym.cells22 : Trym.prog.cellsOf 22 = 1 := by kernel_rfl
theorem Trym.cells9 : Trym.prog.cellsOf 9 = 1 := by kernel_rfl
theorem Trym.cells23 : Trym.prog.cellsOf 23 = 1 := by kernel_rfl
theorem Trym.cells55 : Trym.prog.cellsOf 55 = 3 := by kernel_rfl

theorem row_of_cells {w : World} {x : Addr} {xs : List Value} (h : ∀ j u, xs[j]? = some u → w.cell? (x.add j) = some u) : RowAt w (some x) xs := by
  cases xs with
  | nil => exact .inl rfl
  | cons v r =>
    obtain ⟨b, off, spot⟩ := x
    have h0 := h 0 v rfl
    have hspot : spot = none := by simpa [Addr.add] using World.cell?_spot h0
    subst hspot
    exact .inr ⟨b, off, rfl, fun j u hu => by have := h j u hu; rwa [Addr.add_lit] at this⟩

section
variable {H : Type} {enc : TypeId × Value → H} {w : World} {base : Nat} {spare : Nat → Bool} {held : Bool}

/-- A slice of numbers. -/
theorem isl_of_trod {t e : TypeId} {k : IntKind} (ht : Trym.prog.underlying t = some (.slice e)) (he : Trym.prog.underlying e = some (.int k)) (hc : Trym.prog.cellsOf e = 1) {fuel : Nat} {v : Value} {y : DataW H × List MemPlace}
    (h : DataW.trod enc Trym.prog w base spare held fuel t [v] = some y) : ∃ ao n c nl zs, v = .slice ao n c ∧ ISl k w ao n nl zs ∧ n ≤ 9223372036854775807 := by
  rcases open_ints ht he hc h with ⟨hcs, _⟩ | ⟨x, len, cap, zs, hcs, _, hl, hm, hz, _, hcell, _⟩
  · cases hcs
    exact ⟨none, 0, 0, true, [], rfl, ⟨rfl, rfl, .inl rfl⟩, by omega⟩
  · cases hcs
    have hlz : len ≤ zs.length := by rw [hz]; split <;> omega
    refine ⟨some x, len, cap, false, zs.take len, rfl, ⟨by rw [List.length_take]; omega, rfl, row_of_cells fun j u hu => ?_⟩, by unfold maxLen at hm; omega⟩
    rw [List.getElem?_map, List.getElem?_take] at hu
    split at hu
    · have hj : j < zs.length := by omega
      rw [hcell j hj, ← hu]
      simp [hj]
    · simp at hu

/-- A slice of entries. -/
theorem es_of_trod {fuel : Nat} {v : Value} {y : DataW H × List MemPlace} (h : DataW.trod enc Trym.prog w base spare held fuel 31 [v] = some y) :
    ∃ ao n c es, v = .slice ao n c ∧ ES w ao n es ∧ n ≤ 9223372036854775807 := by
  rcases open_slice Trym.underlying31 h with ⟨hcs, _⟩ | ⟨a, len, cap, m, fu, D, Pl, hcs, _, hl, hm, hmm, _, hx⟩
  · cases hcs
    exact ⟨none, 0, 0, [], rfl, ⟨rfl, .inl rfl⟩, by omega⟩
  · cases hcs
    have hlm : len ≤ m := by rw [hmm]; split <;> omega
    have hlen : len ≤ 9223372036854775807 := by unfold maxLen at hm; omega
    have each : ∀ i, ∃ e : Ent, i < len → w.cell? (a.add (i * 3)) = some (.int .u64 e.h) ∧ w.cell? (a.add (i * 3 + 1)) = some (.string e.k) ∧ ∃ va vn vc, w.cell? (a.add (i * 3 + 2)) = some (.slice va vn vc) ∧ ISl .u8 w va vn e.nl e.bs := by
      intro i
      by_cases hi : i < len
      · obtain ⟨cs', h1, h2⟩ := hx i (by omega)
        rw [Trym.cells55] at h1
        obtain ⟨_, hcl, hcell⟩ := World.cells?_some h1
        obtain ⟨y0, y1, y2, n', _, _, g0, g1, g2⟩ := trod_struct3 Trym.underlying55 h2
        match cs', hcl with
        | [v0, v1, v2], _ =>
          simp [Trym.cells22, Trym.cells9, Trym.cells23] at g0 g1 g2
          obtain ⟨hh, e0, _, _⟩ := DataW.trod_int Trym.underlying22 g0
          obtain ⟨s, e1, _, _⟩ := DataW.trod_string Trym.underlying9 g1
          obtain ⟨va, vn, vc, nl, bs, e2, hv, _⟩ := isl_of_trod Trym.underlying23 Trym.underlying5 Trym.cells5 g2
          cases e0
          cases e1
          subst e2
          have k0 := hcell 0 (by omega)
          have k1 := hcell 1 (by omega)
          have k2 := hcell 2 (by omega)
          rw [add_add] at k0 k1 k2
          exact ⟨⟨hh, s, nl, bs⟩, fun _ => ⟨by simpa using k0, by simpa using k1, va, vn, vc, by simpa using k2, hv⟩⟩
      · exact ⟨⟨0, ByteArray.empty, true, []⟩, fun h => absurd h hi⟩
    obtain ⟨f, hf⟩ : ∃ f : Nat → Ent, ∀ i, i < len → w.cell? (a.add (i * 3)) = some (.int .u64 (f i).h) ∧ w.cell? (a.add (i * 3 + 1)) = some (.string (f i).k) ∧ ∃ va vn vc, w.cell? (a.add (i * 3 + 2)) = some (.slice va vn vc) ∧ ISl .u8 w va vn (f i).nl (f i).bs :=
      ⟨fun i => Classical.choose (each i), fun i => Classical.choose_spec (each i)⟩
    refine ⟨some a, len, cap, (List.range len).map f, rfl, ⟨by simp, ?_⟩, hlen⟩
    by_cases h0 : len = 0
    · subst h0; exact .inl rfl
    · obtain ⟨b, off, spot⟩ := a
      have hspot : spot = none := by simpa [Addr.add] using World.cell?_spot (hf 0 (by omega)).1
      subst hspot
      refine .inr ⟨b, off, rfl, fun i e he => ?_⟩
      rw [List.getElem?_map] at he
      obtain ⟨j, hj, rfl⟩ := Option.map_eq_some_iff.1 he
      have hij : i < len ∧ j = i := by
        have := List.getElem?_eq_some_iff.1 hj
        simp at this
        exact ⟨this.1, this.2.symm⟩
      obtain ⟨hi, rfl⟩ := hij
      obtain ⟨k0, k1, va, vn, vc, k2, hv⟩ := hf j hi
      rw [Addr.add_lit] at k0 k1 k2
      exact ⟨k0, by rw [Nat.add_assoc]; exact k1, va, vn, vc, by rw [Nat.add_assoc]; exact k2, hv⟩
end
end Go.Proofs.Qxb6617096aMods
