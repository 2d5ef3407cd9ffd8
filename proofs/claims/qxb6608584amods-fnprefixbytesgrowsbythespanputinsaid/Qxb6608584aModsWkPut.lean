/-
  THE WALK of FnPrefixBytesGrowsByTheSpanPutIn.
-/
import Derived.Test.Qxb6608584aModsWkSpans
namespace Go.Proofs.Qxb6608584aMods
open Go.RowKit

set_option maxHeartbeats 400000 in
/-- Outside the law's own bounds it answers true at once. -/
theorem put_out (ao : Option Addr) (len cap : Nat) (i n a s : Int) (w : World) (hl : len ≤ 9223372036854775807) (h : 65536 < len ∨ i < 0 ∨ (len : Int) < i) :
    Calls Trym.prog 5 #[.slice ao len cap, .int .i64 i, .int .i64 n, .int .i64 a, .int .i64 s] w fun e w' => e = .returned (.bool true) ∧ Below w.heap.size w w' := by
  by_cases h1 : len ≤ 1048576
  · have hd : decide (len ≤ 1048576) = true := decide_eq_true h1
    by_cases h2 : len ≤ 65536
    · by_cases h3 : i < 0
      · go_enter Trym.func5, Trym.ntmps5
        go_wp2_with (go_at_call 16; refine (guard2_any _ _ _ _ _ _ _ _ hl).mono ?_; rintro e w' ⟨rfl, rfl⟩; rw [hd])
        go_ret
        exact ⟨rfl, Below.refl _ _⟩
      · have h4 : (len : Int) < i := by omega
        clear h
        go_enter Trym.func5, Trym.ntmps5
        go_wp2_with (go_at_call 16; refine (guard2_any _ _ _ _ _ _ _ _ hl).mono ?_; rintro e w' ⟨rfl, rfl⟩; rw [hd])
        go_ret
        exact ⟨rfl, Below.refl _ _⟩
    · clear h
      go_enter Trym.func5, Trym.ntmps5
      go_wp2_with (go_at_call 16; refine (guard2_any _ _ _ _ _ _ _ _ hl).mono ?_; rintro e w' ⟨rfl, rfl⟩; rw [hd])
      go_ret
      exact ⟨rfl, Below.refl _ _⟩
  · have hd : decide (len ≤ 1048576) = false := decide_eq_false h1
    clear h
    go_enter Trym.func5, Trym.ntmps5
    go_wp2_with (go_at_call 16; refine (guard2_any _ _ _ _ _ _ _ _ hl).mono ?_; rintro e w' ⟨rfl, rfl⟩; rw [hd])
    go_ret
    exact ⟨rfl, Below.refl _ _⟩

set_option maxHeartbeats 1000000 in
set_option maxRecDepth 20000 in
theorem put_in (ao : Option Addr) (len cap : Nat) (zs : List Int) (i : Nat) (n a s : Int) (w : World) (ha : ArgRow w ao len zs) (hl : len ≤ 65536) (hi : i ≤ len) :
    Calls Trym.prog 5 #[.slice ao len cap, .int .i64 i, .int .i64 n, .int .i64 a, .int .i64 s] w fun e w' => e = .returned (.bool true) ∧ Below w.heap.size w w' := by
  have hd : decide (len ≤ 1048576) = true := decide_eq_true (by omega)
  obtain ⟨A, HA⟩ : ∃ A, Hid (A = wrap64 (tot (spanL zs 0 i ++ [(n, a, s)] ++ spanL zs i (len - i)))) := ⟨_, rfl⟩
  obtain ⟨B, HB⟩ : ∃ B, Hid (B = wrap64 (tot (spanL zs 0 (len - 0)))) := ⟨_, rfl⟩
  have hAB : (A == wrap64 (B + s)) = true := by
    rw [HA.out, HB.out]
    simp only [Nat.sub_zero]
    rw [law_put zs len i hi n a s]
    simp
  obtain ⟨i0, hi0, hz0, hz1, hz2⟩ := info_parts Trym.info47
  go_enter Trym.func5, Trym.ntmps5
  go_wp2_with (first
    | (go_at_call 16; refine (guard2_any _ _ _ _ _ _ _ _ (by omega)).mono ?_; rintro e w' ⟨rfl, hw⟩; rw [hd, hw]; clear hw)
    | (at_make; refine wpList_make_own _ rfl _ _ 30 rfl w.heap.size 47 i0 _ 3 Trym.underlying30 hi0 hz0 hz1 _ _ _ (len + 1) rfl rfl (by omega) (by rw [hz2]; omega) (by unfold maxLen; omega) (Nat.le_refl _) ?_; intro w1 hown1 hgrow1))
  have hb1 : Below w.heap.size w w1 := (Below.refl _ _).grown hgrow1 (Nat.le_refl _) (fun k h => by cases h)
  clear hgrow1
  go_loopw [11, 12] (fun ss i' wr => ∃ k : Nat, k ≤ i ∧ i' = .int .i64 k ∧ ss = .slice (some ⟨w.heap.size, 0, none⟩) k (len + 1) ∧ wr.ownsRow w.heap.size 47 3 (.slice (some ⟨w.heap.size, 0, none⟩) k (len + 1)) k (spanCells (spanL zs 0 k)) ∧ Below w.heap.size w wr) (fun _ i' _ => i - (intOf i').toNat)
  case atStart => exact ⟨0, Nat.zero_le _, rfl, rfl, by simpa [spanL_zero, spanCells] using hown1, hb1⟩
  case round =>
    obtain ⟨k, hk, rfl, rfl, hown, hbel⟩ := hrel
    clear hown1 hb1
    by_cases hlt : k < i
    · obtain ⟨b, off, rfl, hc⟩ := ha k (by omega)
      have hck := (hbel.cell (World.block_lt_of_cell? w ⟨b, off + k, none⟩ (hc k (by omega)))).trans (hc k (by omega))
      have hkl : k < len := by omega
      obtain ⟨x, HX⟩ : ∃ x, Hid (x = zs.getD k 0) := ⟨_, rfl⟩
      rw [← HX.out] at hck
      clear hc ha
      go_wp2_with (first
        | (go_at_call 17; refine (newSpan_any _ _ _ _).mono ?_; rintro e w' ⟨rfl, rfl⟩)
        | (at_builtin; refine wpList_append_fits _ rfl _ _ 30 rfl w.heap.size 47 i0 3 Trym.underlying30 hi0 hz1 w.heap.size k (len + 1) _ rfl ((hown.alloc _).alloc _) ⟨wr.heap.size + 1, 0, none⟩ 1 1 [.int .i64 ((k : Int) + 1), .int .i64 (k : Int), .int .i64 x] rfl rfl (three_cells _ _ (by simp) _ _ _) (three_one _ _ _) (by omega) ?_; intro w2 hown2 hgrow2))
      have hb2 : Below w.heap.size w w2 := by
        refine ((hbel.alloc hbel.size _).alloc ?_ _).grown hgrow2 ?_ (fun k h => by cases h; exact Nat.le_refl _)
        · have := hbel.size; simp; omega
        · have := hbel.size; simp; omega
      have hown3 : w2.ownsRow w.heap.size 47 3 (Value.slice (some ⟨w.heap.size, 0, none⟩) (k + 1) (len + 1)) (k + 1) (spanCells (spanL zs 0 (k + 1))) := by
        rw [spanL_succ, spanCells_append, show 0 + k = k from by omega]
        have e : spanCells [sp zs k] = [.int .i64 ((k : Int) + 1), .int .i64 (k : Int), .int .i64 x] := by rw [HX.out]; rfl
        rw [e]
        exact hown2
      clear hown2 hgrow2 hown
      go_wp2
      go_roundw
      case rel => exact ⟨k + 1, by omega, by go_num, rfl, hown3, hb2⟩
      case measure => simp [intOf]; omega
    · obtain rfl : i = k := by omega
      go_wp2_with (first
        | (go_at_call 17; refine (newSpan_any _ _ _ _).mono ?_; rintro e w' ⟨rfl, rfl⟩)
        | (at_builtin; refine wpList_append_fits _ rfl _ _ 30 rfl w.heap.size 47 i0 3 Trym.underlying30 hi0 hz1 w.heap.size i (len + 1) _ rfl ((hown.alloc _).alloc _) ⟨wr.heap.size + 1, 0, none⟩ 1 1 [.int .i64 n, .int .i64 a, .int .i64 s] rfl rfl (three_cells _ _ (by simp) _ _ _) (three_one _ _ _) (by omega) ?_; intro w2 hown2 hgrow2))
      have hb2 : Below w.heap.size w w2 := by
        refine ((hbel.alloc hbel.size _).alloc ?_ _).grown hgrow2 ?_ (fun k h => by cases h; exact Nat.le_refl _)
        · have := hbel.size; simp; omega
        · have := hbel.size; simp; omega
      have hown3 : w2.ownsRow w.heap.size 47 3 (Value.slice (some ⟨w.heap.size, 0, none⟩) (i + 1) (len + 1)) (i + 1) (spanCells (spanL zs 0 i ++ [(n, a, s)])) := by
        rw [spanCells_append]
        exact hown2
      clear hown2 hgrow2 hown hbel
      go_wp2
      go_loopw [11, 13] (fun ss i' wr => ∃ k : Nat, i ≤ k ∧ k ≤ len ∧ i' = .int .i64 k ∧ ss = .slice (some ⟨w.heap.size, 0, none⟩) (k + 1) (len + 1) ∧ wr.ownsRow w.heap.size 47 3 (.slice (some ⟨w.heap.size, 0, none⟩) (k + 1) (len + 1)) (k + 1) (spanCells (spanL zs 0 i ++ [(n, a, s)] ++ spanL zs i (k - i))) ∧ Below w.heap.size w wr) (fun _ i' _ => len - (intOf i').toNat)
      case atStart => exact ⟨i, Nat.le_refl _, hi, rfl, rfl, by rw [Nat.sub_self, spanL_zero, List.append_nil]; exact hown3, hb2⟩
      case round =>
        obtain ⟨k, hik, hkl', rfl, rfl, hown, hbel⟩ := hrel
        clear hown3 hb2
        by_cases hkl : k < len
        · obtain ⟨b, off, rfl, hc⟩ := ha k (by omega)
          have hck := (hbel.cell (World.block_lt_of_cell? w ⟨b, off + k, none⟩ (hc k (by omega)))).trans (hc k (by omega))
          obtain ⟨x, HX⟩ : ∃ x, Hid (x = zs.getD k 0) := ⟨_, rfl⟩
          rw [← HX.out] at hck
          clear hc ha
          go_wp2_with (first
            | (go_at_call 17; refine (newSpan_any _ _ _ _).mono ?_; rintro e w' ⟨rfl, rfl⟩)
            | (at_builtin; refine wpList_append_fits _ rfl _ _ 30 rfl w.heap.size 47 i0 3 Trym.underlying30 hi0 hz1 w.heap.size (k + 1) (len + 1) _ rfl ((hown.alloc _).alloc _) ⟨wr.heap.size + 1, 0, none⟩ 1 1 [.int .i64 ((k : Int) + 1), .int .i64 (k : Int), .int .i64 x] rfl rfl (three_cells _ _ (by simp) _ _ _) (three_one _ _ _) (by omega) ?_; intro w2 hown2 hgrow2))
          have hb2 : Below w.heap.size w w2 := by
            refine ((hbel.alloc hbel.size _).alloc ?_ _).grown hgrow2 ?_ (fun k h => by cases h; exact Nat.le_refl _)
            · have := hbel.size; simp; omega
            · have := hbel.size; simp; omega
          have hown3 : w2.ownsRow w.heap.size 47 3 (Value.slice (some ⟨w.heap.size, 0, none⟩) (k + 1 + 1) (len + 1)) (k + 1 + 1) (spanCells (spanL zs 0 i ++ [(n, a, s)] ++ spanL zs i (k + 1 - i))) := by
            rw [show k + 1 - i = k - i + 1 from by omega, spanL_succ, ← List.append_assoc, spanCells_append _ [sp zs (i + (k - i))], show i + (k - i) = k from by omega]
            have e : spanCells [sp zs k] = [.int .i64 ((k : Int) + 1), .int .i64 (k : Int), .int .i64 x] := by rw [HX.out]; rfl
            rw [e]
            exact hown2
          clear hown2 hgrow2 hown
          go_wp2
          go_roundw
          case rel => exact ⟨k + 1, by omega, by omega, by go_num, rfl, hown3, hb2⟩
          case measure => simp [intOf]; omega
        · obtain rfl : len = k := by omega
          have hlenL : len + 1 = (spanL zs 0 i ++ [(n, a, s)] ++ spanL zs i (len - i)).length := by simp [spanL_length]; omega
          have HP := pref_of hlenL hown (.slice none 0 0) (.int .i64 0) (.int .i64 0) (.int .i64 0) .nilIface (.int .i64 0) (.slice none 0 0)
          have HN : Hid ((spanL zs 0 i ++ [(n, a, s)] ++ spanL zs i (len - i)).length ≤ 100000) := by rw [← hlenL]; show len + 1 ≤ 100000; omega
          clear hlenL hown
          go_wp2_with (go_at_call 18; refine (newPrefix_any _ _ _ _).mono ?_; rintro e w' ⟨rfl, rfl⟩)
          refine (zzBytes_v A _ _ _ HA HP HN.out).mono ?_
          rintro e w3 ⟨rfl, bel3⟩
          have be3 : Below w.heap.size w w3 := (hbel.alloc hbel.size _).trans (bel3.mono (by have := hbel.size; simp; omega))
          have ha3 := ha.below be3
          clear bel3 HP hbel
          go_wp2_with fail
          refine (spansOf_any ao len cap zs _ _ 0 len rfl rfl _ ha3 (by omega) (by omega) hl).mono ?_
          rintro e w4 ⟨b4, rfl, hp4, bel4⟩
          go_wp2_with fail
          refine (zzBytes_v B _ _ _ HB hp4 (by rw [spanL_length]; omega)).mono ?_
          rintro e w5 ⟨rfl, bel5⟩
          have be5 : Below w.heap.size w w5 := be3.trans ((bel4.trans (bel5.mono bel4.size)).mono be3.size)
          clear bel4 bel5 hp4 ha3 be3
          go_wp2_with fail
          go_ret
          exact ⟨rfl, be5⟩
end Go.Proofs.Qxb6608584aMods
