/-
  THE WALKS of ZZAddEntry and ZZAddChild, each over the state of the node that is being built.
-/
import Derived.Test.Qxb6617096aModsWk3
namespace Go.Proofs.Qxb6617096aMods
open Go.RowKit

/-- THE NODE WITH ITS FIRST k ENTRIES: block b is the node; its entries' row is the call's own; each value's bytes too; nothing older than the call has turned. -/
def BInv (w : World) (b : Nat) (gen em nm : Int) (k : Nat) (es : List Ent) (wr : World) : Prop :=
  ∃ (L : List (Ent × Option Addr × Nat)) (ve : Value), L.map (·.1) = es.take k ∧ wr.heap[b]? = some (Obj.cells #[.int .u64 gen, .int .u64 em, .int .u64 nm, ve, .slice none 0 0] 62 (0, 0)) ∧
    wr.ownsRow (b + 1) 48 3 ve k (entCells L) ∧ (∀ p ∈ L, OB wr p.2.1 p.1.bs.length p.1.nl p.1.bs) ∧ w.heap.size ≤ b ∧ Below w.heap.size w wr

theorem BInv.below {w : World} {b : Nat} {gen em nm : Int} {k : Nat} {es : List Ent} {wr w2 : World} (h : BInv w b gen em nm k es wr) (hb : Below wr.heap.size wr w2) : BInv w b gen em nm k es w2 := by
  obtain ⟨L, ve, h1, h2, h3, h4, h5, h6⟩ := h
  exact ⟨L, ve, h1, (hb.block b (lt_of_block h2)).trans h2, KeepsT.owns (KeepsT.of_below hb) h3, fun p hp => (h4 p hp).keep (KeepsT.of_below hb), h5, h6.trans (hb.mono h6.size)⟩

/-- What is behind an append onto an owned row and the store of the new slice into the node's field. -/
theorem own_ne {w : World} {base : Nat} {e : TypeId} {size : Nat} {v : Value} {n : Nat} {xs : List Value} (h : w.ownsRow base e size v n xs) {b : Nat} (hb : b < base) : some b ≠ v.ownBlock := by
  intro hh
  have := (h.lt b hh.symm).1
  omega

set_option maxHeartbeats 400000 in
theorem addEntry_any (w wr : World) (b : Nat) (gen em nm : Int) (k : Nat) (es : List Ent) (e : Ent) (va : Option Addr) (vc : Nat) (hI : BInv w b gen em nm k es wr) (he : es[k]? = some e) (hv : OB wr va e.bs.length e.nl e.bs) (hk : k < 131072) :
    Calls Trym.prog 30 #[.pointer (some ⟨b, 0, none⟩), .int .u64 e.h, .string e.k, .slice va e.bs.length vc] wr fun r w' => r = .returned (.tuple #[]) ∧ BInv w b gen em nm (k + 1) es w' := by
  obtain ⟨L, ve, h1, h2, h3, h4, h5, h6⟩ := hI
  obtain ⟨ao, c, rfl, _⟩ := own_shape h3
  have c3 : wr.cell? ⟨b, 3, none⟩ = some (.slice ao k c) := by simp [World.cell?, h2]
  have hlt := lt_of_block h2
  obtain ⟨hx, HX⟩ : ∃ hx, Hid (hx = e.h) := ⟨_, rfl⟩
  obtain ⟨sx, HSX⟩ : ∃ sx, Hid (sx = e.k) := ⟨_, rfl⟩
  obtain ⟨vn, HVN⟩ : ∃ vn, Hid (vn = e.bs.length) := ⟨_, rfl⟩
  rw [← HX.out, ← HSX.out, ← HVN.out]
  have H2 : Hid (wr.heap[b]? = some (Obj.cells #[.int .u64 gen, .int .u64 em, .int .u64 nm, .slice ao k c, .slice none 0 0] 62 (0, 0))) := h2
  have H3 : Hid (wr.ownsRow (b + 1) 48 3 (.slice ao k c) k (entCells L)) := h3
  have H4 : Hid (∀ p ∈ L, OB wr p.2.1 p.1.bs.length p.1.nl p.1.bs) := h4
  have H1 : Hid (L.map (·.1) = es.take k) := h1
  have HE : Hid (es[k]? = some e) := he
  have HV : Hid (OB wr va e.bs.length e.nl e.bs) := hv
  clear h1 h2 h3 h4 he hv
  obtain ⟨i0, hi0, hz0, hz1, hz2⟩ := info_parts Trym.info48
  go_enter Trym.func30, Trym.ntmps30
  go_wp2_with (at_builtin; refine wpList_append_own _ rfl _ _ 60 rfl (b + 1) 48 i0 _ 3 48 Trym.underlying60 hi0 hz0 hz1 hz2 rfl (by decide) _ k (entCells L) rfl (H3.out.alloc _) ⟨wr.heap.size, 0, none⟩ 1 1 [.int .u64 hx, .string sx, .slice va vn vc] rfl rfl (World.news_of_block (heap_alloc_new wr _)) (fun u hu => by simp at hu; rcases hu with rfl | rfl | rfl <;> rfl) (by unfold maxLen; omega) (by omega) (by simp; omega) ?_)
  intro v' w1 hown hgrow _
  obtain ⟨ao', c', rfl, _⟩ := own_shape hown
  have hbb : w1.heap[b]? = some (Obj.cells #[.int .u64 gen, .int .u64 em, .int .u64 nm, .slice ao k c, .slice none 0 0] 62 (0, 0)) :=
    (hgrow.block b (by simp; omega) (own_ne H3.out (Nat.lt_succ_self b))).trans ((Below.heap_alloc wr _ b hlt).trans H2.out)
  have d3 : w1.cell? ⟨b, 3, none⟩ = some (.slice ao k c) := by simp [World.cell?, hbb]
  have f3 : w1.frozen? ⟨b, 3, none⟩ = false := by simp [World.frozen?, hbb]
  have hfin : BInv w b gen em nm (k + 1) es (w1.setCell ⟨b, 3, none⟩ (.slice ao' (k + 1) c')) := by
    have k5 : ∀ w0, KeepsT 5 w0 wr → KeepsT 5 w0 (w1.setCell ⟨b, 3, none⟩ (.slice ao' (k + 1) c')) := fun w0 h0 =>
      ((h0.alloc _).grown hgrow (fun g hg => by
        obtain ⟨cc, hcc⟩ := owns_block (H3.out.alloc (.cells #[.int .u64 hx, .string sx, .slice va vn vc] 48)) g hg
        exact ⟨cc, 48, (0, 0), hcc, by decide⟩)).setCell (a := ⟨b, 3, none⟩) hbb (by decide) _
    refine ⟨L ++ [(e, va, vc)], .slice ao' (k + 1) c', ?_, (heap_setCell_same w1 b 3 _ 62 _ hbb).trans rfl, ?_, fun p hp => ?_, h5, ?_⟩
    · rw [List.map_append, H1.out, List.take_add_one, HE.out]; rfl
    · rw [entCells_append]
      have hnew : entCells [(e, va, vc)] = [.int .u64 hx, .string sx, .slice va vn vc] := by rw [HX.out, HSX.out, HVN.out]; rfl
      rw [hnew]
      exact ownsRow_setCell_below hown (a := ⟨b, 3, none⟩) (Nat.lt_succ_self b) _
    · rcases List.mem_append.1 hp with hp | hp
      · exact (H4.out p hp).keep (k5 _ (KeepsT.refl _ _))
      · simp at hp; subst hp
        exact HV.out.keep (k5 _ (KeepsT.refl _ _))
    · exact ((h6.alloc h6.size _).grown hgrow (by have := h6.size; simp; omega) (fun g hg => by have := (H3.out.lt g hg).1; omega)).setCell (p := ⟨b, 3, none⟩) h5 _
  clear hown hgrow c3
  go_wp2
  go_end0
  exact ⟨rfl, hfin⟩

/-- THE NODE WITH ALL ITS ENTRIES AND THE CHILDREN ks, BESIDE THE ROW OF KIDS: block gk, m cells, cell j holding 'f j'. -/
def DPre (w : World) (b gk m : Nat) (gen em nm : Int) (es : List Ent) (ks : List (Option Addr)) (f : Nat → Value) (wr : World) : Prop :=
  ∃ (L : List (Ent × Option Addr × Nat)) (ve vn : Value), L.map (·.1) = es ∧ wr.heap[b]? = some (Obj.cells #[.int .u64 gen, .int .u64 em, .int .u64 nm, ve, vn] 62 (0, 0)) ∧
    wr.ownsRow (b + 1) 48 3 ve es.length (entCells L) ∧ (∀ p ∈ L, OB wr p.2.1 p.1.bs.length p.1.nl p.1.bs) ∧ wr.ownsRow (gk + 1) 26 1 vn ks.length (ks.map Value.pointer) ∧ wr.rowIs gk 26 m f ∧
    b < gk ∧ w.heap.size ≤ b ∧ Below w.heap.size w wr

set_option maxHeartbeats 400000 in
theorem addChild_any (w wr : World) (b gk m : Nat) (gen em nm : Int) (es : List Ent) (ks : List (Option Addr)) (f : Nat → Value) (x : Option Addr) (hI : DPre w b gk m gen em nm es ks f wr) (hk : ks.length < 131072) :
    Calls Trym.prog 31 #[.pointer (some ⟨b, 0, none⟩), .pointer x] wr fun r w' => r = .returned (.tuple #[]) ∧ DPre w b gk m gen em nm es (ks ++ [x]) f w' := by
  obtain ⟨L, ve, vn, h1, h2, h3, h4, h5, h6, h7, h8, h9⟩ := hI
  obtain ⟨i, HI⟩ : ∃ i, Hid (i = ks.length) := ⟨_, rfl⟩
  rw [← HI.out] at h5 hk
  obtain ⟨ao, c, rfl, _⟩ := own_shape h5
  obtain ⟨ae, ce, rfl, _⟩ := own_shape h3
  have c4 : wr.cell? ⟨b, 4, none⟩ = some (.slice ao i c) := by simp [World.cell?, h2]
  have hlt := lt_of_block h2
  obtain ⟨ne, HNE⟩ : ∃ ne, Hid (ne = es.length) := ⟨_, rfl⟩
  rw [← HNE.out] at h2 h3
  have H2 : Hid (wr.heap[b]? = some (Obj.cells #[.int .u64 gen, .int .u64 em, .int .u64 nm, .slice ae ne ce, .slice ao i c] 62 (0, 0))) := h2
  have H3 : Hid (wr.ownsRow (b + 1) 48 3 (.slice ae ne ce) ne (entCells L)) := h3
  have H4 : Hid (∀ p ∈ L, OB wr p.2.1 p.1.bs.length p.1.nl p.1.bs) := h4
  have H5 : Hid (wr.ownsRow (gk + 1) 26 1 (.slice ao i c) i (ks.map Value.pointer)) := h5
  have H1 : Hid (L.map (·.1) = es) := h1
  have H6 : Hid (wr.rowIs gk 26 m f) := h6
  have hgk := h6.lt
  clear h1 h2 h3 h4 h5 h6
  obtain ⟨i0, hi0, hz0, hz1, hz2⟩ := info_parts Trym.info26
  go_enter Trym.func31, Trym.ntmps31
  go_wp2_with (at_builtin; refine wpList_append_own _ rfl _ _ 37 rfl (gk + 1) 26 i0 _ 1 8 Trym.underlying37 hi0 hz0 hz1 hz2 rfl (by decide) _ i (ks.map Value.pointer) rfl (H5.out.alloc _) ⟨wr.heap.size, 0, none⟩ 1 1 [.pointer x] rfl rfl (World.news_of_block (heap_alloc_new wr _)) (fun u hu => by simp at hu; rcases hu with rfl; rfl) (by unfold maxLen; omega) (by omega) (by simp; omega) ?_)
  intro v' w1 hown hgrow _
  obtain ⟨ao', c', rfl, _⟩ := own_shape hown
  have hbb : w1.heap[b]? = some (Obj.cells #[.int .u64 gen, .int .u64 em, .int .u64 nm, .slice ae ne ce, .slice ao i c] 62 (0, 0)) :=
    (hgrow.block b (by simp; omega) (own_ne H5.out (by omega))).trans ((Below.heap_alloc wr _ b hlt).trans H2.out)
  have d4 : w1.cell? ⟨b, 4, none⟩ = some (.slice ao i c) := by simp [World.cell?, hbb]
  have f4 : w1.frozen? ⟨b, 4, none⟩ = false := by simp [World.frozen?, hbb]
  have hfin : DPre w b gk m gen em nm es (ks ++ [x]) f (w1.setCell ⟨b, 4, none⟩ (.slice ao' (i + 1) c')) := by
    have kt : ∀ t, t ≠ 26 → t ≠ 62 → KeepsT t wr (w1.setCell ⟨b, 4, none⟩ (.slice ao' (i + 1) c')) := fun t ht ht' =>
      (((KeepsT.refl t wr).alloc _).grown hgrow (fun g hg => by
        obtain ⟨cc, hcc⟩ := owns_block (H5.out.alloc (.cells #[.pointer x] 26)) g hg
        exact ⟨cc, 26, (0, 0), hcc, fun e => ht e.symm⟩)).setCell (a := ⟨b, 4, none⟩) hbb (fun e => ht' e.symm) _
    refine ⟨L, .slice ae ne ce, .slice ao' (i + 1) c', H1.out, (heap_setCell_same w1 b 4 _ 62 _ hbb).trans rfl, ?_, fun p hp => ?_, ?_, ?_, h7, h8, ?_⟩
    · rw [← HNE.out]; exact KeepsT.owns (kt 48 (by decide) (by decide)) H3.out
    · exact (H4.out p hp).keep (kt 5 (by decide) (by decide))
    · have hl : (ks ++ [x]).length = i + 1 := by simp [HI.out]
      rw [hl, List.map_append]
      exact ownsRow_setCell_below hown (a := ⟨b, 4, none⟩) (show b < gk + 1 by omega) _
    · refine H6.out.of_block ?_
      rw [heap_setCell_other w1 ⟨b, 4, none⟩ gk _ (show gk ≠ b by omega), hgrow.block gk (by simp; omega) (own_ne H5.out (Nat.lt_succ_self gk))]
      exact Below.heap_alloc wr _ gk hgk
    · exact ((h9.alloc h9.size _).grown hgrow (by have := h9.size; simp; omega) (fun g hg => by have := (H5.out.lt g hg).1; omega)).setCell (p := ⟨b, 4, none⟩) h8 _
  clear hown hgrow c4
  go_wp2
  go_end0
  exact ⟨rfl, hfin⟩
end Go.Proofs.Qxb6617096aMods
