/-
  THE WALKS of slices.Clone at entries and at pointers.
-/
import Derived.Test.Qxb6617096aModsWk3
namespace Go.Proofs.Qxb6617096aMods
open Go.RowKit

theorem row_news {w : World} {x : Addr} {xs : List Value} (h : RowAt w (some x) xs) : ∀ j u, xs[j]? = some u → w.cell? (x.add j) = some u := by
  intro j u hu
  rcases h with rfl | ⟨b, off, e, hc⟩
  · simp at hu
  · cases e; rw [Addr.add_lit]; exact hc j u hu

set_option maxHeartbeats 400000 in
/-- slices.Clone at entries. -/
theorem cloneE_any (ao : Option Addr) (n c : Nat) (es : List Ent) (w : World) (h : ES w ao n es) (hn : n ≤ 131072) :
    Calls Trym.prog 37 #[.slice ao n c] w fun e w' => ∃ ao' c', e = .returned (.slice ao' n c') ∧ ES w' ao' n es ∧ Below w.heap.size w w' := by
  have hq := fun wx => Lib.run_eql_slice_nil (P := Trym.prog) wx 60 48 ao n c 0 0 Trym.underlying60
  have H : Hid (ES w ao n es) := h
  clear h
  cases ao with
  | none =>
    have hes0 : es = [] := by
      rcases H.out.2 with h | ⟨b, off, e, _⟩
      · exact h
      · cases e
    subst hes0
    have hn0 : n = 0 := H.out.1
    subst hn0
    go_enter Trym.func37, Trym.ntmps37
    go_wp2
    go_ret
    exact ⟨none, 0, rfl, ⟨rfl, .inl rfl⟩, Below.refl _ _⟩
  | some x =>
    obtain ⟨L, hL, hrow, hv⟩ := H.out.cells
    have hlen : L.length = n := by rw [H.out.1, ← hL, List.length_map]
    have HL : Hid (L.map (·.1) = es) := hL
    have HV : Hid (∀ p ∈ L, ISl .u8 w p.2.1 p.1.bs.length p.1.nl p.1.bs) := hv
    have HR : Hid (RowAt w (some x) (entCells L)) := hrow
    have HN : Hid (L.length = n) := hlen
    clear hL hrow hv hlen
    obtain ⟨i0, hi0, hz0, hz1, hz2⟩ := info_parts Trym.info48
    go_enter Trym.func37, Trym.ntmps37
    go_wp2_with (at_builtin; refine wpList_append_own _ rfl _ _ 60 rfl w.heap.size 48 i0 _ 3 48 Trym.underlying60 hi0 hz0 hz1 hz2 rfl (by decide) _ 0 [] rfl (World.ownsRow_made w #[] 0 (Nat.le_refl _) (Nat.zero_le _) rfl) x n c (entCells L) rfl (by rw [entCells_length, HN.out]) (row_news (HR.out.below ((Below.refl _ _).alloc (Nat.le_refl _) _))) (entCells_one L) (by unfold maxLen; omega) (by omega) (by simp) ?_)
    intro v' w1 hown hgrow _
    have hbel : Below w.heap.size w w1 := ((Below.refl _ _).alloc (Nat.le_refl _) _).grown hgrow (by simp) (fun k hk => by simp [Value.ownBlock] at hk; omega)
    obtain ⟨ao', c', rfl, hes⟩ := es_own hown (fun p hp => (HV.out p hp).below hbel)
    rw [HL.out] at hes
    clear hown hgrow
    go_wp2
    go_ret
    exact ⟨_, _, rfl, hes, hbel⟩

set_option maxHeartbeats 400000 in
/-- slices.Clone at pointers. -/
theorem cloneP_any (ao : Option Addr) (n c : Nat) (ks : List (Option Addr)) (w : World) (h : PS w ao n ks) (hn : n ≤ 131072) :
    Calls Trym.prog 38 #[.slice ao n c] w fun e w' => ∃ ao' c', e = .returned (.slice ao' n c') ∧ PS w' ao' n ks ∧ Below w.heap.size w w' := by
  have hq := fun wx => Lib.run_eql_slice_nil (P := Trym.prog) wx 37 26 ao n c 0 0 Trym.underlying37
  have H : Hid (PS w ao n ks) := h
  clear h
  cases ao with
  | none =>
    have hks0 : ks = [] := by
      rcases H.out.2 with h | ⟨b, off, e, _⟩
      · simpa using h
      · cases e
    subst hks0
    have hn0 : n = 0 := H.out.1
    subst hn0
    go_enter Trym.func38, Trym.ntmps38
    go_wp2
    go_ret
    exact ⟨none, 0, rfl, ⟨rfl, .inl rfl⟩, Below.refl _ _⟩
  | some x =>
    have HR : Hid (RowAt w (some x) (ks.map Value.pointer)) := H.out.2
    have HN : Hid (ks.length = n) := H.out.1.symm
    obtain ⟨i0, hi0, hz0, hz1, hz2⟩ := info_parts Trym.info26
    go_enter Trym.func38, Trym.ntmps38
    go_wp2_with (at_builtin; refine wpList_append_own _ rfl _ _ 37 rfl w.heap.size 26 i0 _ 1 8 Trym.underlying37 hi0 hz0 hz1 hz2 rfl (by decide) _ 0 [] rfl (World.ownsRow_made w #[] 0 (Nat.le_refl _) (Nat.zero_le _) rfl) x n c (ks.map Value.pointer) rfl (by rw [List.length_map, HN.out]; omega) (row_news (HR.out.below ((Below.refl _ _).alloc (Nat.le_refl _) _))) (fun u hu => by obtain ⟨_, _, rfl⟩ := List.mem_map.1 hu; rfl) (by unfold maxLen; omega) (by omega) (by simp) ?_)
    intro v' w1 hown hgrow _
    have hbel : Below w.heap.size w w1 := ((Below.refl _ _).alloc (Nat.le_refl _) _).grown hgrow (by simp) (fun k hk => by simp [Value.ownBlock] at hk; omega)
    obtain ⟨ao', c', rfl, hps⟩ := own_shape hown
    have hps' : PS w1 ao' n ks := ⟨HN.out.symm, by simpa using hps⟩
    clear hown hgrow hps
    go_wp2
    go_ret
    exact ⟨_, _, rfl, hps', hbel⟩
end Go.Proofs.Qxb6617096aMods
