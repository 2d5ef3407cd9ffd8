/-
  THE WALK of FnPrefixBytesAddsOverAnyCut.
-/
import Derived.Test.Qxb6608584aModsWkSpans
namespace Go.Proofs.Qxb6608584aMods
open Go.RowKit

set_option maxHeartbeats 400000 in
/-- Outside the law's own bounds it answers true at once. -/
theorem cut_out (ao : Option Addr) (len cap : Nat) (i : Int) (w : World) (hl : len ≤ 9223372036854775807) (h : 65536 < len ∨ i < 0 ∨ (len : Int) < i) :
    Calls Trym.prog 4 #[.slice ao len cap, .int .i64 i] w fun e w' => e = .returned (.bool true) ∧ Below w.heap.size w w' := by
  by_cases h1 : len ≤ 1048576
  · have hd : decide (len ≤ 1048576) = true := decide_eq_true h1
    by_cases h2 : len ≤ 65536
    · by_cases h3 : i < 0
      · go_enter Trym.func4, Trym.ntmps4
        go_wp2_with (go_at_call 13; refine (guard_any _ _ _ _ _ hl).mono ?_; rintro e w' ⟨rfl, rfl⟩; rw [hd])
        go_ret
        exact ⟨rfl, Below.refl _ _⟩
      · have h4 : (len : Int) < i := by omega
        clear h
        go_enter Trym.func4, Trym.ntmps4
        go_wp2_with (go_at_call 13; refine (guard_any _ _ _ _ _ hl).mono ?_; rintro e w' ⟨rfl, rfl⟩; rw [hd])
        go_ret
        exact ⟨rfl, Below.refl _ _⟩
    · clear h
      go_enter Trym.func4, Trym.ntmps4
      go_wp2_with (go_at_call 13; refine (guard_any _ _ _ _ _ hl).mono ?_; rintro e w' ⟨rfl, rfl⟩; rw [hd])
      go_ret
      exact ⟨rfl, Below.refl _ _⟩
  · have hd : decide (len ≤ 1048576) = false := decide_eq_false h1
    clear h
    go_enter Trym.func4, Trym.ntmps4
    go_wp2_with (go_at_call 13; refine (guard_any _ _ _ _ _ hl).mono ?_; rintro e w' ⟨rfl, rfl⟩; rw [hd])
    go_ret
    exact ⟨rfl, Below.refl _ _⟩

set_option maxHeartbeats 1000000 in
theorem cut_in (ao : Option Addr) (len cap : Nat) (zs : List Int) (i : Nat) (w : World) (ha : ArgRow w ao len zs) (HZ : Hid (∀ j, -9223372036854775808 ≤ zs.getD j 0 ∧ zs.getD j 0 ≤ 9223372036854775807)) (hl : len ≤ 65536) (hi : i ≤ len) :
    Calls Trym.prog 4 #[.slice ao len cap, .int .i64 i] w fun e w' => e = .returned (.bool true) ∧ Below w.heap.size w w' := by
  have hd : decide (len ≤ 1048576) = true := decide_eq_true (by omega)
  obtain ⟨A, HA⟩ : ∃ A, Hid (A = wrap64 (tot (spanL zs 0 (len - 0)))) := ⟨_, rfl⟩
  obtain ⟨B, HB⟩ : ∃ B, Hid (B = wrap64 (tot (spanL zs 0 (i - 0)))) := ⟨_, rfl⟩
  obtain ⟨C, HC⟩ : ∃ C, Hid (C = wrap64 (tot (spanL zs i (len - i)))) := ⟨_, rfl⟩
  have hABC : (A != wrap64 (B + C)) = false := by
    rw [HA.out, HB.out, HC.out]
    simp only [Nat.sub_zero]
    rw [law_cut zs len i hi]
    simp
  have LEN : Hid (∀ f t, t ≤ len → (spanL zs f (t - f)).length ≤ 100000) := fun f t h => by rw [spanL_length]; omega
  go_enter Trym.func4, Trym.ntmps4
  go_wp2_with (go_at_call 13; refine (guard_any _ _ _ _ _ (by omega)).mono ?_; rintro e w' ⟨rfl, hw⟩; rw [hd, hw]; clear hw)
  refine (spansOf_any ao len cap zs _ _ 0 len rfl rfl _ ha (by omega) (by omega) hl).mono ?_
  rintro e w1 ⟨b1, rfl, hp1, bel1⟩
  go_wp2_with fail
  refine (zzBytes_v A _ _ _ HA hp1 (LEN.out 0 len (by omega))).mono ?_
  rintro e w2 ⟨rfl, bel2⟩
  have beA : Below w.heap.size w w2 := bel1.trans (bel2.mono bel1.size)
  have haA := ha.below beA
  clear bel1 bel2 hp1
  go_wp2_with fail
  refine (spansOf_any ao len cap zs _ _ 0 i rfl rfl _ haA (by omega) (by omega) hl).mono ?_
  rintro e w3 ⟨b2, rfl, hp2, bel3⟩
  go_wp2_with fail
  refine (zzBytes_v B _ _ _ HB hp2 (LEN.out 0 i (by omega))).mono ?_
  rintro e w4 ⟨rfl, bel4⟩
  have beB : Below w.heap.size w w4 := beA.trans ((bel3.trans (bel4.mono bel3.size)).mono beA.size)
  have haB := ha.below beB
  clear bel3 bel4 hp2 haA beA
  go_wp2_with fail
  refine (spansOf_any ao len cap zs _ _ i len rfl rfl _ haB (by omega) (by omega) hl).mono ?_
  rintro e w5 ⟨b3, rfl, hp3, bel5⟩
  go_wp2_with fail
  refine (zzBytes_v C _ _ _ HC hp3 (LEN.out i len (by omega))).mono ?_
  rintro e w6 ⟨rfl, bel6⟩
  have beC : Below w.heap.size w w6 := beB.trans ((bel5.trans (bel6.mono bel5.size)).mono beB.size)
  have haC := ha.below beC
  clear bel5 bel6 hp3 haB beB
  by_cases hil : i = len
  · subst hil
    by_cases hz : i = 0
    · subst hz
      go_wp2_with fail
      go_ret
      exact ⟨rfl, beC⟩
    · obtain ⟨j, rfl⟩ : ∃ j, i = j + 1 := ⟨i - 1, by omega⟩
      obtain ⟨b, off, hao, hc⟩ := haC j (by omega)
      have hcj := hc j (by omega)
      obtain ⟨x, HX⟩ : ∃ x, Hid (x = zs.getD j 0) := ⟨_, rfl⟩
      rw [← HX.out] at hcj
      have HXW : Hid (x = wrap64 (tot (spanL zs j (j + 1 - j)))) := by
        show x = _
        rw [show j + 1 - j = 1 from by omega, law_one zs j (HZ.out j).1 (HZ.out j).2]
        exact HX.out
      subst hao
      clear hc
      go_wp2_with fail
      refine (spansOf_any _ _ cap zs _ _ j (j + 1) rfl (by omega) _ haC (by omega) (by omega) hl).mono ?_
      rintro e w7 ⟨b4, rfl, hp4, bel7⟩
      go_wp2_with fail
      refine (zzBytes_v x _ _ _ HXW hp4 (LEN.out j (j + 1) (by omega))).mono ?_
      rintro e w8 ⟨rfl, bel8⟩
      have bel := bel7.trans (bel8.mono bel7.size)
      have beD : Below w.heap.size w w8 := beC.trans (bel.mono beC.size)
      have hcj8 := (bel.cell (World.block_lt_of_cell? w6 ⟨b, off + j, none⟩ hcj)).trans hcj
      clear bel7 bel8 hp4 haC hcj bel beC
      go_wp2_with fail
      go_ret
      exact ⟨rfl, beD⟩
  · have hil' : ((i : Int) == (len : Int)) = false := by simp; omega
    have hlt : i < len := by omega
    obtain ⟨b, off, hao, hc⟩ := haC i (by omega)
    have hcj := hc i (by omega)
    obtain ⟨x, HX⟩ : ∃ x, Hid (x = zs.getD i 0) := ⟨_, rfl⟩
    rw [← HX.out] at hcj
    have HXW : Hid (x = wrap64 (tot (spanL zs i (i + 1 - i)))) := by
      show x = _
      rw [show i + 1 - i = 1 from by omega, law_one zs i (HZ.out i).1 (HZ.out i).2]
      exact HX.out
    subst hao
    clear hc
    go_wp2_with fail
    refine (spansOf_any _ _ cap zs _ _ i (i + 1) rfl (by omega) _ haC (by omega) (by omega) hl).mono ?_
    rintro e w7 ⟨b4, rfl, hp4, bel7⟩
    go_wp2_with fail
    refine (zzBytes_v x _ _ _ HXW hp4 (LEN.out i (i + 1) (by omega))).mono ?_
    rintro e w8 ⟨rfl, bel8⟩
    have bel := bel7.trans (bel8.mono bel7.size)
    have beD : Below w.heap.size w w8 := beC.trans (bel.mono beC.size)
    have hcj8 := (bel.cell (World.block_lt_of_cell? w6 ⟨b, off + i, none⟩ hcj)).trans hcj
    clear bel7 bel8 hp4 haC hcj bel beC
    go_wp2_with fail
    go_ret
    exact ⟨rfl, beD⟩
end Go.Proofs.Qxb6608584aMods
