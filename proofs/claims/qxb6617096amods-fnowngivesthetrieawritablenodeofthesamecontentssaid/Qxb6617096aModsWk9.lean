/-
  THE WALK of buildNode.
-/
import Derived.Test.Qxb6617096aModsWk8
import Derived.Deep.RegionHeld3
namespace Go.Proofs.Qxb6617096aMods
open Go.RowKit

theorem BInv.bel {w : World} {b : Nat} {gen em nm : Int} {k : Nat} {es : List Ent} {wr : World} (h : BInv w b gen em nm k es wr) : Below w.heap.size w wr := by
  obtain ⟨L, ve, h1, h2, h3, h4, h5, h6⟩ := h
  exact h6
theorem BInv.start (w : World) (gen em nm : Int) (es : List Ent) : BInv w w.heap.size gen em nm 0 es (w.alloc (.cells #[.int .u64 gen, .int .u64 em, .int .u64 nm, .slice none 0 0, .slice none 0 0] 62)) :=
  ⟨[], .slice none 0 0, by simp, heap_alloc_new _ _, World.ownsRow_nil _ _ _ _, fun p hp => by simp at hp, Nat.le_refl _, (Below.refl _ _).alloc (Nat.le_refl _) _⟩
theorem DPre.bel {w : World} {b gk m : Nat} {gen em nm : Int} {es : List Ent} {ks : List (Option Addr)} {f : Nat → Value} {wr : World} (h : DPre w b gk m gen em nm es ks f wr) : Below w.heap.size w wr := by
  obtain ⟨L, ve, vn, h1, h2, h3, h4, h5, h6, h7, h8, h9⟩ := h
  exact h9
theorem DPre.row {w : World} {b gk m : Nat} {gen em nm : Int} {es : List Ent} {ks : List (Option Addr)} {f : Nat → Value} {wr : World} (h : DPre w b gk m gen em nm es ks f wr) : wr.rowIs gk 26 m f := by
  obtain ⟨L, ve, vn, h1, h2, h3, h4, h5, h6, h7, h8, h9⟩ := h
  exact h6
theorem DPre.below {w : World} {b gk m : Nat} {gen em nm : Int} {es : List Ent} {ks : List (Option Addr)} {f : Nat → Value} {wr w2 : World} (h : DPre w b gk m gen em nm es ks f wr) (hb : Below wr.heap.size wr w2) : DPre w b gk m gen em nm es ks f w2 := by
  obtain ⟨L, ve, vn, h1, h2, h3, h4, h5, h6, h7, h8, h9⟩ := h
  exact ⟨L, ve, vn, h1, (hb.block b (lt_of_block h2)).trans h2, KeepsT.owns (KeepsT.of_below hb) h3, fun p hp => (h4 p hp).keep (KeepsT.of_below hb), KeepsT.owns (KeepsT.of_below hb) h5, KeepsT.rowIs (KeepsT.of_below hb) h6, h7, h8, h9.trans (hb.mono h9.size)⟩
/-- The kids' row is made. -/
theorem DPre.start {w : World} {b : Nat} {gen em nm : Int} {n : Nat} {es : List Ent} {wr : World} (h : BInv w b gen em nm n es wr) (hn : n = es.length) (m : Nat) :
    DPre w b wr.heap.size m gen em nm es [] (fun _ => .pointer none) (wr.alloc (.cells (madeCells #[.pointer none] m) 26)) := by
  obtain ⟨L, ve, h1, h2, h3, h4, h5, h6⟩ := h
  have hb : Below wr.heap.size wr (wr.alloc (.cells (madeCells #[.pointer none] m) 26)) := (Below.refl _ _).alloc (Nat.le_refl _) _
  subst hn
  refine ⟨L, ve, .slice none 0 0, by rw [h1, List.take_length], (hb.block b (lt_of_block h2)).trans h2, KeepsT.owns (KeepsT.of_below hb) h3, fun p hp => (h4 p hp).keep (KeepsT.of_below hb), World.ownsRow_nil _ _ _ _, World.rowIs_made _ _ _ _, lt_of_block h2, h5, h6.trans (hb.mono h6.size)⟩
/-- A kid is stored. -/
theorem DPre.store {w : World} {b gk m : Nat} {gen em nm : Int} {es : List Ent} {ks : List (Option Addr)} {f : Nat → Value} {wr : World} (h : DPre w b gk m gen em nm es ks f wr) (i : Nat) (v : Value) :
    DPre w b gk m gen em nm es ks (fun j => if j = i then v else f j) (wr.setCell ⟨gk, i, none⟩ v) := by
  obtain ⟨L, ve, vn, h1, h2, h3, h4, h5, h6, h7, h8, h9⟩ := h
  have kt : ∀ t, t ≠ 26 → KeepsT t wr (wr.setCell ⟨gk, i, none⟩ v) := fun t ht => by
    obtain ⟨c, hc, _⟩ := h6
    exact (KeepsT.refl t wr).setCell (a := ⟨gk, i, none⟩) hc (fun e => ht e.symm) _
  exact ⟨L, ve, vn, h1, kt 62 (by decide) _ _ _ h2, KeepsT.owns (kt 48 (by decide)) h3, fun p hp => (h4 p hp).keep (kt 5 (by decide)), ownsRow_setCell_below h5 (a := ⟨gk, i, none⟩) (Nat.lt_succ_self gk) _, h6.set i v, h7, h8, h9.setCell (p := ⟨gk, i, none⟩) (show w.heap.size ≤ gk by omega) _⟩
/-- The node and its kids, built. -/
theorem DPre.done {w : World} {b gk m : Nat} {gen em nm : Int} {es : List Ent} {ks : List (Option Addr)} {f : Nat → Value} {wr : World} (h : DPre w b gk m gen em nm es ks f wr) (hk : ks.length = m) (hf : ∀ (j : Nat) x, ks[j]? = some x → f j = .pointer x) :
    NodeAt wr b gen em nm es ks ∧ PS wr (some ⟨gk, 0, none⟩) m ks ∧ Below w.heap.size w wr := by
  obtain ⟨L, ve, vn, h1, h2, h3, h4, h5, h6, h7, h8, h9⟩ := h
  obtain ⟨ae, ce, rfl, hE⟩ := es_own h3 (fun p hp => (h4 p hp).isl)
  rw [h1] at hE
  obtain ⟨ap, cp, rfl, hP⟩ := own_shape h5
  refine ⟨⟨by simp [World.cell?, h2], by simp [World.cell?, h2], by simp [World.cell?, h2], ⟨ae, _, ce, by simp [World.cell?, h2], hE⟩, ⟨ap, _, cp, by simp [World.cell?, h2], ⟨rfl, hP⟩⟩, _, h2⟩, ⟨hk.symm, .inr ⟨gk, 0, rfl, fun j u hu => ?_⟩⟩, h9⟩
  rw [List.getElem?_map] at hu
  obtain ⟨x, hx, rfl⟩ := Option.map_eq_some_iff.1 hu
  have hj : j < m := by rw [← hk]; exact (List.getElem?_eq_some_iff.1 hx).1
  rw [Nat.zero_add, h6.cell hj, hf j x hx]

/-- buildNode: none. -/
theorem build_none (ng em nm : Int) (ao aw : Option Addr) (n c m cw : Nat) (w : World) :
    Calls Trym.prog 14 #[.bool true, .int .u64 ng, .int .u64 em, .int .u64 nm, .slice ao n c, .slice aw m cw] w fun r w' => r = .returned (.tuple #[.pointer none, .slice none 0 0]) ∧ w' = w := by
  go_enter Trym.func14, Trym.ntmps14
  go_wp2_with fail
  go_ret2
  exact ⟨rfl, rfl⟩

set_option maxHeartbeats 2000000 in
/-- buildNode: a node of these entries and as many children. -/
theorem build_some (ng em nm : Int) (ao aw : Option Addr) (n c m cw : Nat) (es : List Ent) (wl : Bool) (zs : List Int) (w : World) (hE : ES w ao n es) (hW : ISl .u64 w aw m wl zs) (hn : n ≤ 131072) (hm : m ≤ 131072) (hes : Hid (∀ (i : Nat) e, es[i]? = some e → e.bs.length ≤ 1048576)) :
    Calls Trym.prog 14 #[.bool false, .int .u64 ng, .int .u64 em, .int .u64 nm, .slice ao n c, .slice aw m cw] w fun r w' => ∃ b ks ak ck, r = .returned (.tuple #[.pointer (some ⟨b, 0, none⟩), .slice ak m ck]) ∧ NodeAt w' b ng em nm es ks ∧ PS w' ak m ks ∧ Below w.heap.size w w' := by
  have HE : Hid (ES w ao n es) := hE
  have HW : Hid (ISl .u64 w aw m wl zs) := hW
  clear hE hW
  have HI0 : Hid (BInv w w.heap.size ng em nm 0 es (w.alloc (.cells #[.int .u64 ng, .int .u64 em, .int .u64 nm, .slice none 0 0, .slice none 0 0] 62))) := BInv.start w ng em nm es
  go_enter Trym.func14, Trym.ntmps14
  go_wp2_with fail
  refine (newNode_any ng em nm w).mono ?_
  rintro r w0 ⟨rfl, hw0⟩
  rw [← hw0] at HI0
  clear hw0
  go_wp2_with fail
  go_loopw [15] (fun i wr => ∃ k : Nat, k ≤ n ∧ i = .int .i64 k ∧ Hid (BInv w w.heap.size ng em nm k es wr)) (fun i _ => n - (intOf i).toNat)
  case atStart => exact ⟨0, Nat.zero_le _, rfl, HI0⟩
  case round =>
    obtain ⟨k, hk, rfl, HI⟩ := hrel
    clear HI0
    by_cases hlt : k < n
    · have hbel := HI.out.bel
      obtain ⟨e, b, off, va, vn, vc, he, hao, e0w, e1w, e2w, hv⟩ := HE.out.at k hlt
      have hbb : b < w.heap.size := World.block_lt_of_cell? w _ e0w
      have e0 := (hbel.cell (p := ⟨b, off + k * 3, none⟩) hbb).trans e0w
      have e1 := (hbel.cell (p := ⟨b, off + k * 3 + 1, none⟩) hbb).trans e1w
      have e2 := (hbel.cell (p := ⟨b, off + k * 3 + 2, none⟩) hbb).trans e2w
      have hvn : vn ≤ 1048576 := by rw [hv.1]; exact hes.out k e he
      have HX : Hid (es[k]? = some e) := he
      have HVN : Hid (vn = e.bs.length) := hv.1
      have HV : Hid (ISl .u8 wr va vn e.nl e.bs) := hv.below hbel
      have E0 : Hid (w.cell? ⟨b, off + k * 3, none⟩ = some (.int .u64 e.h)) := e0w
      have E1 : Hid (w.cell? ⟨b, off + k * 3 + 1, none⟩ = some (.string e.k)) := e1w
      have E2 : Hid (w.cell? ⟨b, off + k * 3 + 2, none⟩ = some (.slice va vn vc)) := e2w
      subst hao
      clear he hv e0w e1w e2w hbel
      have hlt' : (k : Int) < (n : Int) := by omega
      go_wp2_with fail
      go_region_held3 (fun w' => w'.cell? ⟨b, off + k * 3, none⟩ = some (.int .u64 e.h) ∧ w'.cell? ⟨b, off + k * 3 + 1, none⟩ = some (.string e.k) ∧ w'.cell? ⟨b, off + k * 3 + 2, none⟩ = some (.slice va vn vc)) (go_keep)
        (first
          | (go_at_call 6; refine (cloneBytes_any va vn vc e.nl e.bs _ ?_ hvn).mono ?_; exact HV.out; rintro r' w2 ⟨va', vc', rfl, hob, hb2⟩; have hb3 : Below wr.heap.size wr w2 := ((Below.refl wr.heap.size wr).drew).trans hb2; have f0 := old_cell hb3 e0; have f1 := old_cell hb3 e1; have f2 := old_cell hb3 e2; have HI2 : Hid (BInv w w.heap.size ng em nm k es w2) := HI.out.below hb3; have HOB : Hid (OB w2 va' vn e.nl e.bs) := hob; clear e0 e1 e2 hob hb2 hb3; rw [HVN.out] at HOB; rw [HVN.out])
          | (go_at_call 30; refine (addEntry_any w _ w.heap.size ng em nm k es e va' vc' HI2.out HX.out HOB.out (by omega)).mono ?_; rintro r' w3 ⟨rfl, hI3⟩; have HI3 : Hid (BInv w w.heap.size ng em nm (k + 1) es w3) := hI3; have g0 := (HI3.out.bel.cell (p := ⟨b, off + k * 3, none⟩) hbb).trans E0.out; have g1 := (HI3.out.bel.cell (p := ⟨b, off + k * 3 + 1, none⟩) hbb).trans E1.out; have g2 := (HI3.out.bel.cell (p := ⟨b, off + k * 3 + 2, none⟩) hbb).trans E2.out; clear hI3))
      clear g0 g1 g2 f0 f1 f2 HI2 HOB
      go_wp2_with fail
      go_roundw
      case rel => exact ⟨k + 1, by omega, by go_num, HI3⟩
      case measure => simp [intOf]; omega
    · obtain rfl : n = k := by omega
      obtain ⟨w1, rfl⟩ : ∃ w1, w1 = wr := ⟨_, rfl⟩
      have HD0 : Hid (DPre w w.heap.size w1.heap.size m ng em nm es [] (fun _ => .pointer none) (w1.alloc (.cells (madeCells #[.pointer none] m) 26))) := DPre.start HI.out HE.out.1 m
      clear HI
      obtain ⟨i0, hi0, hz0, hz1, hz2⟩ := info_parts Trym.info26
      go_wp2_with (at_make; refine wpList_make_row _ rfl _ _ 37 rfl 26 i0 _ Trym.underlying37 hi0 hz0 hz1 rfl _ _ m rfl rfl (by rw [hz2]; omega) (by omega) ?_)
      clear hi0 hz0 hz1 hz2
      go_loopw [17] (fun j wr => ∃ (i : Nat) (ks : List (Option Addr)) (f : Nat → Value), i ≤ m ∧ j = .int .i64 i ∧ Hid (ks.length = i) ∧ Hid (DPre w w.heap.size w1.heap.size m ng em nm es ks f wr) ∧ Hid (∀ (j : Nat) x, ks[j]? = some x → f j = .pointer x)) (fun j _ => m - (intOf j).toNat)
      case atStart => exact ⟨0, [], fun _ => .pointer none, Nat.zero_le _, rfl, rfl, HD0, fun j x h => by simp at h⟩
      case round =>
        obtain ⟨i, ks, f, hi, rfl, HL, HD, HF⟩ := hrel
        clear HD0
        by_cases hlt2 : i < m
        · obtain ⟨cb, co, haw, hcw⟩ := (HW.out.below HD.out.bel).at i hlt2
          obtain ⟨x, HX⟩ : ∃ x, Hid (x = zs.getD i 0) := ⟨_, rfl⟩
          rw [← HX.out] at hcw
          subst haw
          have hlt' : (i : Int) < (m : Int) := by omega
          go_wp2_with fail
          refine (newNode_any x 0 0 wr).mono ?_
          rintro r w2 ⟨rfl, hw2⟩
          have HD2 : Hid (DPre w w.heap.size w1.heap.size m ng em nm es ks f w2) := by rw [hw2]; exact HD.out.below ((Below.refl _ _).alloc (Nat.le_refl _) _)
          obtain ⟨p, HPP⟩ : ∃ p, Hid (p = wr.heap.size) := ⟨_, rfl⟩
          rw [← HPP.out]
          clear hw2 hcw
          have q0 : w2.cell? ⟨w1.heap.size, i, none⟩ = some (f i) := HD2.out.row.cell hlt2
          have q1 := HD2.out.row.frozen i
          obtain ⟨u, HU⟩ : ∃ u, Hid (u = f i) := ⟨_, rfl⟩
          rw [← HU.out] at q0
          have HD3 : Hid (DPre w w.heap.size w1.heap.size m ng em nm es ks (fun j => if j = i then .pointer (some ⟨p, 0, none⟩) else f j) (w2.setCell ⟨w1.heap.size, i, none⟩ (.pointer (some ⟨p, 0, none⟩)))) := HD2.out.store i _
          go_wp2_with fail
          refine (addChild_any w _ w.heap.size w1.heap.size m ng em nm es ks _ (some ⟨p, 0, none⟩) HD3.out (by rw [HL.out]; omega)).mono ?_
          rintro r w3 ⟨rfl, hD4⟩
          have HD4 : Hid (DPre w w.heap.size w1.heap.size m ng em nm es (ks ++ [some ⟨p, 0, none⟩]) (fun j => if j = i then .pointer (some ⟨p, 0, none⟩) else f j) w3) := hD4
          clear hD4 q0 q1 HD3 HD2 HD
          go_wp2_with fail
          go_roundw
          case rel =>
            refine ⟨i + 1, _, _, by omega, by go_num, ?_, HD4, ?_⟩
            · show (ks ++ [some _]).length = i + 1
              rw [List.length_append, HL.out]; rfl
            · intro j y hy
              rw [List.getElem?_append] at hy
              split at hy
              · rename_i hj
                rw [HL.out] at hj
                show (if j = i then _ else f j) = _
                rw [if_neg (by omega)]
                exact HF.out j y hy
              · rename_i hj
                have hl := HL.out
                have hj2 : j = i := by
                  have := (List.getElem?_eq_some_iff.1 hy).1
                  simp at this
                  omega
                subst hj2
                rw [hl, Nat.sub_self] at hy
                simp at hy
                subst hy
                show (if j = j then _ else f j) = _
                rw [if_pos rfl]
          case measure => simp [intOf]; omega
        · obtain rfl : m = i := by omega
          have hfin := HD.out.done HL.out HF.out
          go_wp2_with fail
          go_ret2
          exact ⟨_, ks, _, _, rfl, hfin.1, hfin.2.1, hfin.2.2⟩
end Go.Proofs.Qxb6617096aMods
