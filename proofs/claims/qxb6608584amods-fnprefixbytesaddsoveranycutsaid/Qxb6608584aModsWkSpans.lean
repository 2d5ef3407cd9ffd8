/-
  THE WALK of zzB1SpansOf: a prefix of the spans from 'from' up to 'to'.
-/
import Derived.Test.Qxb6608584aModsWk
namespace Go.Proofs.Qxb6608584aMods
open Go.RowKit

/-- WHAT IS KNOWN OF THE SIZES: nothing of an empty slice's address; else cell j holds zs[j]. -/
def ArgRow (w : World) (ao : Option Addr) (len : Nat) (zs : List Int) : Prop :=
  ∀ i, i < len → ∃ b off, ao = some ⟨b, off, none⟩ ∧ ∀ j, j < len → w.cell? ⟨b, off + j, none⟩ = some (.int .i64 (zs.getD j 0))

theorem ArgRow.below {w w' : World} {ao : Option Addr} {len : Nat} {zs : List Int} (h : ArgRow w ao len zs) (hb : Below w.heap.size w w') : ArgRow w' ao len zs := by
  intro i hi
  obtain ⟨b, off, e, hc⟩ := h i hi
  exact ⟨b, off, e, fun j hj => (hb.cell (World.block_lt_of_cell? w ⟨b, off + j, none⟩ (hc j hj))).trans (hc j hj)⟩

/-- What is owned by a row of spans, in a prefix's block. -/
theorem pref_of {w : World} {base g cap : Nat} {L : List (Int × Int × Int)} {n : Nat} (hn : n = L.length) (hown : w.ownsRow base 47 3 (.slice (some ⟨g, 0, none⟩) n cap) n (spanCells L)) (c0 c2 c3 c4 c5 c6 c7 : Value) :
    Pref (w.alloc (.cells #[c0, .slice (some ⟨g, 0, none⟩) n cap, c2, c3, c4, c5, c6, c7] 35)) w.heap.size L := by
  subst hn
  refine ⟨g, cap, by simp [go_sem], fun k h => ?_⟩
  obtain ⟨e0, e1, e2⟩ := spanCells_get L k h
  have hc := (hown.alloc (.cells #[c0, .slice (some ⟨g, 0, none⟩) L.length cap, c2, c3, c4, c5, c6, c7] 35)).cells (g := g) rfl
  have f0 := hc _ _ e0
  have f1 := hc _ _ e1
  have f2 := hc _ _ e2
  simp only [Addr.add_lit, Nat.zero_add] at f0 f1 f2
  exact ⟨f0, f1, f2⟩

theorem three_cells (w : World) (n : Nat) (hn : n = w.heap.size) (x y z : Value) : ∀ j u, [x, y, z][j]? = some u → (w.alloc (.cells #[x, y, z] 47)).cell? ((⟨n, 0, none⟩ : Addr).add j) = some u := by
  subst hn
  intro j u hu
  rw [Addr.add_lit, Nat.zero_add]
  match j, hu with
  | 0, hu => simpa [go_sem] using hu
  | 1, hu => simpa [go_sem] using hu
  | 2, hu => simpa [go_sem] using hu
theorem three_one (x y z : Int) : ∀ u ∈ [Value.int .i64 x, Value.int .i64 y, Value.int .i64 z], u.oneCell' = true := by
  intro u hu
  simp at hu
  rcases hu with rfl | rfl | rfl <;> rfl

set_option maxHeartbeats 400000 in
theorem spansOf_any (ao : Option Addr) (len cap : Nat) (zs : List Int) (F T : Int) (f t : Nat) (hF : F = f) (hT : T = t) (w : World) (ha : ArgRow w ao len zs) (hft : f ≤ t) (ht : t ≤ len) (hl : len ≤ 65536) :
    Calls Trym.prog 15 #[.slice ao len cap, .int .i64 F, .int .i64 T] w fun e w' => ∃ b, e = .returned (.pointer (some ⟨b, 0, none⟩)) ∧ Pref w' b (spanL zs f (t - f)) ∧ Below w.heap.size w w' := by
  subst hF
  subst hT
  obtain ⟨i0, hi, hz0, hz1, hz2⟩ := info_parts Trym.info47
  go_enter Trym.func15, Trym.ntmps15
  go_wp2_with (at_make; refine wpList_make_own _ rfl _ _ 30 rfl w.heap.size 47 i0 _ 3 Trym.underlying30 hi hz0 hz1 _ _ _ (t - f) rfl rfl (by omega) (by rw [hz2]; omega) (by unfold maxLen; omega) (Nat.le_refl _) ?_; intro w1 hown1 hgrow1)
  have hb1 : Below w.heap.size w w1 := (Below.refl _ _).grown hgrow1 (Nat.le_refl _) (fun k h => by cases h)
  clear hgrow1
  go_loopw [7, 8] (fun ss i wr => ∃ k : Nat, f ≤ k ∧ k ≤ t ∧ i = .int .i64 k ∧ ss = .slice (some ⟨w.heap.size, 0, none⟩) (k - f) (t - f) ∧ wr.ownsRow w.heap.size 47 3 (.slice (some ⟨w.heap.size, 0, none⟩) (k - f) (t - f)) (k - f) (spanCells (spanL zs f (k - f))) ∧ Below w.heap.size w wr) (fun _ i _ => t - (intOf i).toNat)
  case atStart => exact ⟨f, Nat.le_refl _, hft, rfl, by simp, by simpa [spanL_zero, spanCells] using hown1, hb1⟩
  case round =>
    obtain ⟨k, hfk, hk, rfl, rfl, hown, hbel⟩ := hrel
    clear hown1 hb1
    by_cases hlt : k < t
    · obtain ⟨b, off, rfl, hc⟩ := ha k (by omega)
      have hck := (hbel.cell (World.block_lt_of_cell? w ⟨b, off + k, none⟩ (hc k (by omega)))).trans (hc k (by omega))
      have hkl : k < len := by omega
      obtain ⟨x, HX⟩ : ∃ x, Hid (x = zs.getD k 0) := ⟨_, rfl⟩
      rw [← HX.out] at hck
      clear hc ha
      go_wp2_with (first
        | (go_at_call 17; refine (newSpan_any _ _ _ _).mono ?_; rintro e w' ⟨rfl, rfl⟩)
        | (at_builtin; refine wpList_append_fits _ rfl _ _ 30 rfl w.heap.size 47 i0 3 Trym.underlying30 hi hz1 w.heap.size (k - f) (t - f) _ rfl ((hown.alloc _).alloc _) ⟨wr.heap.size + 1, 0, none⟩ 1 1 [.int .i64 ((k : Int) + 1), .int .i64 (k : Int), .int .i64 x] rfl rfl (three_cells _ _ (by simp) _ _ _) (three_one _ _ _) (by omega) ?_; intro w2 hown2 hgrow2))
      have hb2 : Below w.heap.size w w2 := by
        refine ((hbel.alloc hbel.size _).alloc ?_ _).grown hgrow2 ?_ (fun k h => by cases h; exact Nat.le_refl _)
        · have := hbel.size; simp; omega
        · have := hbel.size; simp; omega
      have hown3 : w2.ownsRow w.heap.size 47 3 (Value.slice (some ⟨w.heap.size, 0, none⟩) (k + 1 - f) (t - f)) (k + 1 - f) (spanCells (spanL zs f (k + 1 - f))) := by
        rw [show k + 1 - f = k - f + 1 from by omega, spanL_succ, spanCells_append, show f + (k - f) = k from by omega]
        have e : spanCells [sp zs k] = [.int .i64 ((k : Int) + 1), .int .i64 (k : Int), .int .i64 x] := by rw [HX.out]; rfl
        rw [e]
        exact hown2
      clear hown2 hgrow2 hown
      go_wp2
      go_roundw
      case rel => exact ⟨k + 1, by omega, by omega, by go_num, by rw [show k + 1 - f = k - f + 1 from by omega], hown3, hb2⟩
      case measure => simp [intOf]; omega
    · obtain rfl : t = k := by omega
      go_wp2_with (go_at_call 18; refine (newPrefix_any _ _ _ _).mono ?_; rintro e w' ⟨rfl, rfl⟩)
      go_ret
      exact ⟨wr.heap.size, rfl, pref_of (spanL_length _ _ _).symm hown _ _ _ _ _ _ _, hbel.alloc hbel.size _⟩

/-- The guard of FnPrefixBytesAddsOverAnyCut. -/
theorem guard_any (ao : Option Addr) (len cap : Nat) (i : Int) (w : World) (hl : len ≤ 9223372036854775807) :
    Calls Trym.prog 13 #[.slice ao len cap, .int .i64 i] w fun e w' => e = .returned (.bool (decide (len ≤ 1048576))) ∧ w' = w := by
  by_cases h : len ≤ 1048576
  · have hd : decide (len ≤ 1048576) = true := decide_eq_true h
    go_enter Trym.func13, Trym.ntmps13
    go_wp2
    go_ret
    exact ⟨by rw [hd]; rfl, rfl⟩
  · have hd : decide (len ≤ 1048576) = false := decide_eq_false h
    go_enter Trym.func13, Trym.ntmps13
    go_wp2
    go_ret
    exact ⟨by rw [hd]; rfl, rfl⟩

/-- The guard of FnPrefixBytesGrowsByTheSpanPutIn. -/
theorem guard2_any (ao : Option Addr) (len cap : Nat) (i n a s : Int) (w : World) (hl : len ≤ 9223372036854775807) :
    Calls Trym.prog 16 #[.slice ao len cap, .int .i64 i, .int .i64 n, .int .i64 a, .int .i64 s] w fun e w' => e = .returned (.bool (decide (len ≤ 1048576))) ∧ w' = w := by
  by_cases h : len ≤ 1048576
  · have hd : decide (len ≤ 1048576) = true := decide_eq_true h
    go_enter Trym.func16, Trym.ntmps16
    go_wp2
    go_ret
    exact ⟨by rw [hd]; rfl, rfl⟩
  · have hd : decide (len ≤ 1048576) = false := decide_eq_false h
    go_enter Trym.func16, Trym.ntmps16
    go_wp2
    go_ret
    exact ⟨by rw [hd]; rfl, rfl⟩

/-- ZZbytes, the sum under a name. -/
theorem zzBytes_v (v : Int) (L : List (Int × Int × Int)) (w : World) (b : Nat) (hv : Hid (v = wrap64 (tot L))) (hp : Pref w b L) (hn : L.length ≤ 100000) :
    Calls Trym.prog 14 #[.pointer (some ⟨b, 0, none⟩)] w fun e w' => e = .returned (.int .i64 v) ∧ Below w.heap.size w w' := by
  rw [hv.out]
  exact zzBytes_any L w b hp hn
end Go.Proofs.Qxb6608584aMods
