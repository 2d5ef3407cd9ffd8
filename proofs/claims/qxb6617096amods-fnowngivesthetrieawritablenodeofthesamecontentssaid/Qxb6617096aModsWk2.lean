/-
  THE WALKS of seat b6617096aM: cloneWords, sameBytes, the two guards.
-/
import Derived.Test.Qxb6617096aModsWk
namespace Go.Proofs.Qxb6617096aMods
open Go.RowKit

/-- cloneWords. -/
theorem cloneWords_any (ao : Option Addr) (n cap : Nat) (nl : Bool) (bs : List Int) (w : World) (h : ISl .u64 w ao n nl bs) (hn : n ≤ 1048576) :
    Calls Trym.prog 13 #[.slice ao n cap] w fun e w' => ∃ ao' cap', e = .returned (.slice ao' n cap') ∧ ISl .u64 w' ao' n nl bs ∧ Below w.heap.size w w' := by
  obtain ⟨h1, h2, h3⟩ := h
  have hq := fun wx => Lib.run_eql_slice_nil (P := Trym.prog) wx 32 22 ao n cap 0 0 Trym.underlying32
  rw [h2] at hq
  cases nl with
  | true =>
    have hao : ao = none := by cases ao <;> simp_all
    subst hao
    have hbs : bs = [] := by
      rcases h3 with h3 | ⟨b, off, e, _⟩
      · simpa using h3
      · cases e
    subst hbs
    have hn0 : n = 0 := by simpa using h1
    subst hn0
    clear h1 h2 h3
    go_enter Trym.func13, Trym.ntmps13
    go_wp2
    go_ret
    exact ⟨none, 0, rfl, ⟨rfl, rfl, .inl rfl⟩, Below.refl _ _⟩
  | false =>
    obtain ⟨i0, hi0, hz0, hz1, hz2⟩ := info_parts Trym.info22
    have H1 : Hid (n = bs.length) := h1
    have H3 : Hid (RowAt w ao (bs.map (Value.int .u64))) := h3
    clear h1 h2 h3
    go_enter Trym.func13, Trym.ntmps13
    go_wp2_with (at_make; refine wpList_make_row _ rfl _ _ 32 rfl 22 i0 _ Trym.underlying32 hi0 hz0 hz1 rfl _ _ n rfl rfl (by rw [hz2]; omega) (by omega) ?_)
    have hb1 : Below w.heap.size w (w.alloc (.cells (madeCells #[.int .u64 0] n) 22)) := (Below.refl _ _).alloc (Nat.le_refl _) _
    have hr1 : (w.alloc (.cells (madeCells #[.int .u64 0] n) 22)).rowIs w.heap.size 22 n (fun j => if j < 0 then .int .u64 (bs.getD j 0) else .int .u64 0) := (World.rowIs_made w (.int .u64 0) n 22).congr (fun i _ => by simp)
    go_loopw [4] (fun i wr => ∃ k : Nat, k ≤ n ∧ i = .int .i64 k ∧ wr.rowIs w.heap.size 22 n (fun j => if j < k then .int .u64 (bs.getD j 0) else .int .u64 0) ∧ Below w.heap.size w wr) (fun i _ => n - (intOf i).toNat)
    case atStart => exact ⟨0, Nat.zero_le _, rfl, hr1, hb1⟩
    case round =>
      obtain ⟨k, hk, rfl, hrow, hbel⟩ := hrel
      clear hr1 hb1
      by_cases hlt : k < n
      · obtain ⟨b, off, hao, hc⟩ : ∃ b off, ao = some ⟨b, off, none⟩ ∧ wr.cell? ⟨b, off + k, none⟩ = some (.int .u64 (bs.getD k 0)) := by
          rcases H3.out with h3 | ⟨b, off, e, hc⟩
          · have := H1.out; simp at h3; subst h3; simp at this; omega
          · refine ⟨b, off, e, old_cell hbel (hc k _ ?_)⟩
            have hk' : k < bs.length := by rw [← H1.out]; exact hlt
            simp [hk']
        obtain ⟨x, HX⟩ : ∃ x, Hid (x = bs.getD k 0) := ⟨_, rfl⟩
        rw [← HX.out] at hc
        subst hao
        obtain ⟨u, hcu⟩ : ∃ u, wr.cell? ⟨w.heap.size, k, none⟩ = some u := ⟨_, hrow.cell hlt⟩
        have hfu := hrow.frozen k
        have hnext := (hrow.set k (.int .u64 x)).congr (g := fun j => if j < k + 1 then .int .u64 (bs.getD j 0) else .int .u64 0) (fun j hj => by
          by_cases e : j = k
          · subst e; simp [HX.out]
          · by_cases e2 : j < k
            · rw [if_neg e, if_pos e2, if_pos (by omega)]
            · rw [if_neg e, if_neg e2, if_neg (by omega)])
        clear hrow
        go_wp2
        go_roundw
        case rel => exact ⟨k + 1, by omega, by go_num, hnext, hbel.setCell (Nat.le_refl _) _⟩
        case measure => simp [intOf]; omega
      · obtain rfl : n = k := by omega
        go_wp2
        go_ret
        refine ⟨_, _, rfl, ⟨H1.out, rfl, .inr ⟨_, 0, rfl, fun j u hu => ?_⟩⟩, hbel⟩
        have hj : j < bs.length := by simpa using (List.getElem?_eq_some_iff.1 hu).1
        have hjn : j < n := by rw [H1.out]; exact hj
        rw [Nat.zero_add, hrow.cell hjn, ← hu, if_pos hjn]
        simp [hj]

/-- A row's cell by its index. -/
theorem ISl.at {k : IntKind} {w : World} {ao : Option Addr} {n : Nat} {nl : Bool} {zs : List Int} (h : ISl k w ao n nl zs) (i : Nat) (hi : i < n) :
    ∃ b off, ao = some ⟨b, off, none⟩ ∧ w.cell? ⟨b, off + i, none⟩ = some (.int k (zs.getD i 0)) := by
  obtain ⟨h1, _, h3 | ⟨b, off, e, hc⟩⟩ := h
  · simp at h3; subst h3; simp at h1; omega
  · have hi' : i < zs.length := by omega
    exact ⟨b, off, e, hc i _ (by simp [hi'])⟩

set_option maxHeartbeats 400000 in
/-- sameBytes, at two slices that hold the same bytes. -/
theorem sameBytes_any (a1 a2 : Option Addr) (n c1 c2 : Nat) (nl : Bool) (bs : List Int) (w : World) (h1 : ISl .u8 w a1 n nl bs) (h2 : ISl .u8 w a2 n nl bs) (hn : n ≤ 1048576) :
    Calls Trym.prog 35 #[.slice a1 n c1, .slice a2 n c2] w fun e w' => e = .returned (.bool true) ∧ ∃ m, w' = w.drewN m := by
  have hq1 := fun wx => Lib.run_eql_slice_nil (P := Trym.prog) wx 23 5 a1 n c1 0 0 Trym.underlying23
  have hq2 := fun wx => Lib.run_eql_slice_nil (P := Trym.prog) wx 23 5 a2 n c2 0 0 Trym.underlying23
  rw [h1.2.1] at hq1
  rw [h2.2.1] at hq2
  have H1 : Hid (ISl .u8 w a1 n nl bs) := h1
  have H2 : Hid (ISl .u8 w a2 n nl bs) := h2
  clear h1 h2
  go_enter Trym.func35, Trym.ntmps35
  go_wp2
  go_loopw [5] (fun i wr => ∃ k m : Nat, k ≤ n ∧ i = .int .i64 k ∧ wr = w.drewN m) (fun i _ => n - (intOf i).toNat)
  case atStart => exact ⟨0, 0, Nat.zero_le _, rfl, rfl⟩
  case round =>
    obtain ⟨k, m, hk, rfl, rfl⟩ := hrel
    clear hq1 hq2
    by_cases hlt : k < n
    · obtain ⟨b1, o1, e1, hc1⟩ := H1.out.at k hlt
      obtain ⟨b2, o2, e2, hc2⟩ := H2.out.at k hlt
      obtain ⟨x, HX⟩ : ∃ x, Hid (x = bs.getD k 0) := ⟨_, rfl⟩
      rw [← HX.out] at hc1 hc2
      subst e1
      subst e2
      have hlt' : (k : Int) < (n : Int) := by omega
      go_wp2
      go_quiet (fail)
      go_wp2
      go_roundw
      case rel => exact ⟨k + 1, _, by omega, by go_num, rfl⟩
      case measure => simp [intOf]; omega
    · go_wp2
      go_ret
      exact ⟨rfl, m, rfl⟩
end Go.Proofs.Qxb6617096aMods
