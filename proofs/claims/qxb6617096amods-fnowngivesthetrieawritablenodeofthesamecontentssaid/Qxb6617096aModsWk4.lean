/-
  THE WALK of cloneEntries.
-/
import Derived.Test.Qxb6617096aModsWk3
import Derived.Deep.RegionHeld3
import Derived.Deep.CutRange
namespace Go.Proofs.Qxb6617096aMods
open Go.RowKit

/-- What cloneEntries has made so far: k entries, in the block g of n times three cells. -/
def CInv (w : World) (g n k : Nat) (es : List Ent) (wr : World) : Prop :=
  ∃ (L : List (Ent × Option Addr × Nat)) (f : Nat → Value), L.length = k ∧ L.map (·.1) = es.take k ∧ wr.rowIs g 55 (n * 3) f ∧ (∀ j u, (entCells L)[j]? = some u → f j = u) ∧
    (∀ p ∈ L, OB wr p.2.1 p.1.bs.length p.1.nl p.1.bs) ∧ Below w.heap.size w wr

/-- A round: the value cloned, the three cells stored. -/
theorem CInv.next {w : World} {g n k : Nat} {es : List Ent} {wr w2 : World} (h : CInv w g n k es wr) (hg : w.heap.size ≤ g) {e : Ent} (he : es[k]? = some e) (hb : Below wr.heap.size wr w2) {va : Option Addr} {vc : Nat} (hv : OB w2 va e.bs.length e.nl e.bs) :
    CInv w g n (k + 1) es (((w2.setCell ⟨g, k * 3, none⟩ (.int .u64 e.h)).setCell ⟨g, k * 3 + 1, none⟩ (.string e.k)).setCell ⟨g, k * 3 + 2, none⟩ (.slice va e.bs.length vc)) := by
  obtain ⟨L, f, h1, h2, h3, h4, h5, h6⟩ := h
  have r2 := KeepsT.rowIs (KeepsT.of_below (t := 55) hb) h3
  have ra := r2.set (k * 3) (.int .u64 e.h)
  have rb := ra.set (k * 3 + 1) (.string e.k)
  have rc := rb.set (k * 3 + 2) (.slice va e.bs.length vc)
  have keep : ∀ w0, KeepsT 5 w0 w2 → KeepsT 5 w0 (((w2.setCell ⟨g, k * 3, none⟩ (.int .u64 e.h)).setCell ⟨g, k * 3 + 1, none⟩ (.string e.k)).setCell ⟨g, k * 3 + 2, none⟩ (.slice va e.bs.length vc)) := by
    intro w0 h0
    obtain ⟨_, hc, _⟩ := r2
    obtain ⟨_, hca, _⟩ := ra
    obtain ⟨_, hcb, _⟩ := rb
    exact ((h0.setCell (a := ⟨g, k * 3, none⟩) hc (by decide) _).setCell (a := ⟨g, k * 3 + 1, none⟩) hca (by decide) _).setCell (a := ⟨g, k * 3 + 2, none⟩) hcb (by decide) _
  refine ⟨L ++ [(e, va, vc)], _, by simp [h1], ?_, rc, ?_, ?_, ?_⟩
  · rw [List.map_append, h2, List.take_add_one, he]; rfl
  · intro j u hu
    rw [entCells_append, List.getElem?_append] at hu
    have hl := entCells_length L
    rw [h1] at hl
    split at hu
    · rename_i hj
      rw [hl] at hj
      have := h4 j u hu
      rw [if_neg (by omega), if_neg (by omega), if_neg (by omega)]
      exact this
    · rename_i hj
      rw [hl] at hj hu
      obtain ⟨r, hr⟩ : ∃ r, j = k * 3 + r := ⟨j - k * 3, by omega⟩
      subst hr
      rw [show k * 3 + r - k * 3 = r from by omega] at hu
      match r, hu with
      | 0, hu => simp [entCells] at hu; rw [if_neg (by omega), if_neg (by omega), if_pos (by omega)]; exact hu
      | 1, hu => simp [entCells] at hu; rw [if_neg (by omega), if_pos rfl]; exact hu
      | 2, hu => simp [entCells] at hu; rw [if_pos rfl]; exact hu
  · intro p hp
    rcases List.mem_append.1 hp with hp | hp
    · exact (h5 p hp).keep (keep _ (KeepsT.of_below hb))
    · simp at hp; subst hp
      exact hv.keep (keep _ (KeepsT.refl _ _))
  · exact (((h6.trans (hb.mono h6.size)).setCell (p := ⟨g, k * 3, none⟩) hg _).setCell (p := ⟨g, k * 3 + 1, none⟩) hg _).setCell (p := ⟨g, k * 3 + 2, none⟩) hg _

/-- The three cells that are stored into are there. -/
theorem CInv.room {w : World} {g n k : Nat} {es : List Ent} {wr w2 : World} (h : CInv w g n k es wr) (hk : k < n) (hb : Below wr.heap.size wr w2) :
    ∃ u0 u1 u2, w2.cell? ⟨g, k * 3, none⟩ = some u0 ∧ w2.cell? ⟨g, k * 3 + 1, none⟩ = some u1 ∧ w2.cell? ⟨g, k * 3 + 2, none⟩ = some u2 ∧ w2.frozen? ⟨g, k * 3, none⟩ = false ∧ w2.frozen? ⟨g, k * 3 + 1, none⟩ = false ∧ w2.frozen? ⟨g, k * 3 + 2, none⟩ = false := by
  obtain ⟨L, f, h1, h2, h3, h4, h5, h6⟩ := h
  have r2 := KeepsT.rowIs (KeepsT.of_below (t := 55) hb) h3
  exact ⟨_, _, _, r2.cell (by omega), r2.cell (by omega), r2.cell (by omega), r2.frozen _, r2.frozen _, r2.frozen _⟩

theorem CInv.done {w : World} {g n : Nat} {es : List Ent} {wr : World} (h : CInv w g n n es wr) (hn : n = es.length) : ES wr (some ⟨g, 0, none⟩) n es ∧ Below w.heap.size w wr := by
  obtain ⟨L, f, h1, h2, h3, h4, h5, h6⟩ := h
  refine ⟨?_, h6⟩
  have e := es_of (w := wr) (g := g) (l := L) (fun j u hu => by
    have hj := (List.getElem?_eq_some_iff.1 hu).1
    rw [entCells_length, h1] at hj
    rw [h3.cell hj, h4 j u hu]) h5
  rw [h1, h2, List.take_of_length_le (by omega)] at e
  exact e

theorem CInv.bel {w : World} {g n k : Nat} {es : List Ent} {wr : World} (h : CInv w g n k es wr) : Below w.heap.size w wr := by
  obtain ⟨L, f, h1, h2, h3, h4, h5, h6⟩ := h
  exact h6

set_option maxHeartbeats 1000000 in
theorem cloneEntries_any (ao : Option Addr) (n c : Nat) (es : List Ent) (w : World) (h : ES w ao n es) (hn : n ≤ 131072) (hes : Hid (∀ (i : Nat) e, es[i]? = some e → e.bs.length ≤ 1048576)) :
    Calls Trym.prog 12 #[.slice ao n c] w fun e w' => ∃ ao' c', e = .returned (.slice ao' n c') ∧ ES w' ao' n es ∧ Below w.heap.size w w' := by
  have hq := fun wx => Lib.run_eql_slice_nil (P := Trym.prog) wx 31 55 ao n c 0 0 Trym.underlying31
  have H : Hid (ES w ao n es) := h
  clear h
  cases hnil : ao.isNone with
  | true =>
    rw [hnil] at hq
    have hao : ao = none := by cases ao <;> simp_all
    subst hao
    have hes0 : es = [] := by
      rcases H.out.2 with h | ⟨b, off, e, _⟩
      · exact h
      · cases e
    subst hes0
    have hn0 : n = 0 := H.out.1
    subst hn0
    clear hnil
    go_enter Trym.func12, Trym.ntmps12
    go_wp2
    go_ret
    exact ⟨none, 0, rfl, ⟨rfl, .inl rfl⟩, Below.refl _ _⟩
  | false =>
    rw [hnil] at hq
    clear hnil
    obtain ⟨i0, hi0, hz0, hz1, hz2⟩ := info_parts Trym.info55
    go_enter Trym.func12, Trym.ntmps12
    go_wp2_with (at_make; refine wpList_make_full _ rfl _ _ 31 rfl w.heap.size 55 i0 _ 3 Trym.underlying31 hi0 hz0 hz1 _ _ _ _ n rfl rfl rfl rfl (by rw [hz2]; omega) (by unfold maxLen; omega) (Nat.le_refl _) ?_; intro w1 hown1 hgrow1)
    have hI : CInv w w.heap.size n 0 es w1 := by
      obtain ⟨_, ⟨hv, _⟩ | ⟨g, cap, cur, hv, _, hh, _, _, hs, _⟩⟩ := hown1
      · cases hv
      · cases hv
        refine ⟨[], fun j => cur.getD j (.int .u64 0), rfl, by simp, ⟨cur, hh, hs, fun i hi => ?_⟩, fun j u hu => by simp [entCells] at hu, fun p hp => by simp at hp, (Below.refl _ _).grown hgrow1 (Nat.le_refl _) (fun k h => by cases h)⟩
        have hi' : i < cur.size := by omega
        simp [hi']
    clear hown1 hgrow1
    go_loopw [4] (fun i wr => ∃ k : Nat, k ≤ n ∧ i = .int .i64 k ∧ CInv w w.heap.size n k es wr) (fun i _ => n - (intOf i).toNat)
    case atStart => exact ⟨0, Nat.zero_le _, rfl, hI⟩
    case round =>
      obtain ⟨k, hk, rfl, hinv⟩ := hrel
      clear hI
      by_cases hlt : k < n
      · have hbel := hinv.bel
        obtain ⟨e, b, off, va, vn, vc, he, hao, e0, e1, e2, hv⟩ := (H.out.below hbel).at k hlt
        have hbb : b < w.heap.size := by
          obtain ⟨e', b', off', va', vn', vc', _, hao', e0', _⟩ := H.out.at k hlt
          rw [hao] at hao'; cases hao'
          exact World.block_lt_of_cell? w _ e0'
        have HE : Hid (es[k]? = some e) := he
        have hvn : vn ≤ 1048576 := by rw [hv.1]; exact hes.out k e he
        have HV : Hid (ISl .u8 wr va vn e.nl e.bs) := hv
        have HI : Hid (CInv w w.heap.size n k es wr) := hinv
        obtain ⟨hx, sx, HX, HSX⟩ : ∃ hx sx, Hid (hx = e.h) ∧ Hid (sx = e.k) := ⟨_, _, rfl, rfl⟩
        rw [← HX.out] at e0
        rw [← HSX.out] at e1
        subst hao
        clear he hv hinv hq
        have hlt' : (k : Int) < (n : Int) := by omega
        have hne : w.heap.size ≠ b := by omega
        go_wp2_with fail
        go_region_held3 (fun w' => w'.cell? ⟨b, off + k * 3, none⟩ = some (.int .u64 hx) ∧ w'.cell? ⟨b, off + k * 3 + 1, none⟩ = some (.string sx) ∧ w'.cell? ⟨b, off + k * 3 + 2, none⟩ = some (.slice va vn vc)) (go_keep)
          (first
            | (go_at_call 6; refine (cloneBytes_any va vn vc e.nl e.bs _ ?_ hvn).mono ?_; exact HV.out; rintro e' w2 ⟨va', vc', rfl, hob, hb2⟩; have hb3 : Below wr.heap.size wr w2 := ((Below.refl wr.heap.size wr).drew).trans hb2; have f0 := old_cell hb3 e0; have f1 := old_cell hb3 e1; have f2 := old_cell hb3 e2; obtain ⟨u0, u1, u2, g0, g1, g2, z0, z1, z2⟩ := HI.out.room hlt hb3; clear e0 e1 e2))
        have hnext : CInv w w.heap.size n (k + 1) es (((w2.setCell ⟨w.heap.size, k * 3, none⟩ (.int .u64 hx)).setCell ⟨w.heap.size, k * 3 + 1, none⟩ (.string sx)).setCell ⟨w.heap.size, k * 3 + 2, none⟩ (.slice va' vn vc')) := by
          have hvl := HV.out.1
          rw [hvl] at hob
          rw [HX.out, HSX.out, hvl]
          exact HI.out.next (Nat.le_refl _) HE.out hb3 hob
        clear hob hb2 hb3 g0 g1 g2 z0 z1 z2 f0 f1 f2
        go_wp2_with fail
        go_roundw
        case rel => exact ⟨k + 1, by omega, by go_num, hnext⟩
        case measure => simp [intOf]; omega
      · obtain rfl : n = k := by omega
        go_wp2_with fail
        go_ret
        exact ⟨_, _, rfl, hinv.done H.out.1⟩
end Go.Proofs.Qxb6617096aMods
