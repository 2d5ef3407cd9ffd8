/-
  THE WALKS of seat b6617096aM, the small functions: a node's readers, ZZNewNode, cloneBytes, cloneWords, sameBytes.
-/
import Derived.Test.Qxb6617096aModsProg
import Derived.Test.Qxb6617096aModsMem
import Derived.WalkKit
import Derived.WalkSpells
import Derived.WalkLawsBesides
import Derived.RowKit3
import Derived.Lib.SliceRun
import Derived.Deep.QuietTactic
import Derived.BigQuiet
import Derived.BigRegion
import Derived.Deep.Draws
namespace Go.Proofs.Qxb6617096aMods
open Go.RowKit

theorem Trym.info5 : (Trym.prog.info? 5).map (fun i => (i.zero, i.size, i.bytes)) = some (some (.int .u8 0), 1, 1) := by kernel_rfl
theorem Trym.info22 : (Trym.prog.info? 22).map (fun i => (i.zero, i.size, i.bytes)) = some (some (.int .u64 0), 1, 8) := by kernel_rfl
theorem Trym.info26 : (Trym.prog.info? 26).map (fun i => (i.zero, i.size, i.bytes)) = some (some (.pointer none), 1, 8) := by kernel_rfl
theorem Trym.info55 : (Trym.prog.info? 55).map (fun i => (i.zero, i.size, i.bytes)) = some (some (.agg #[.int .u64 0, .string ByteArray.empty, .slice none 0 0]), 3, 48) := by kernel_rfl
theorem Trym.info48 : (Trym.prog.info? 48).map (fun i => (i.zero, i.size, i.bytes)) = some (some (.agg #[.int .u64 0, .string ByteArray.empty, .slice none 0 0]), 3, 48) := by kernel_rfl

/-! ### A node's readers: each hands back a cell; the world stands -/
section
variable (b : Nat) (w : World)
theorem gen_any (x : Int) (h : w.cell? ⟨b, 0, none⟩ = some (.int .u64 x)) : Calls Trym.prog 16 #[.pointer (some ⟨b, 0, none⟩)] w fun e w' => e = .returned (.int .u64 x) ∧ w' = w := by
  go_enter Trym.func16, Trym.ntmps16
  go_wp2
  go_ret
  exact ⟨rfl, rfl⟩
theorem emap_any (x : Int) (h : w.cell? ⟨b, 1, none⟩ = some (.int .u64 x)) : Calls Trym.prog 21 #[.pointer (some ⟨b, 0, none⟩)] w fun e w' => e = .returned (.int .u64 x) ∧ w' = w := by
  go_enter Trym.func21, Trym.ntmps21
  go_wp2
  go_ret
  exact ⟨rfl, rfl⟩
theorem nmap_any (x : Int) (h : w.cell? ⟨b, 2, none⟩ = some (.int .u64 x)) : Calls Trym.prog 22 #[.pointer (some ⟨b, 0, none⟩)] w fun e w' => e = .returned (.int .u64 x) ∧ w' = w := by
  go_enter Trym.func22, Trym.ntmps22
  go_wp2
  go_ret
  exact ⟨rfl, rfl⟩
theorem ecount_any (ao : Option Addr) (n c : Nat) (h : w.cell? ⟨b, 3, none⟩ = some (.slice ao n c)) : Calls Trym.prog 19 #[.pointer (some ⟨b, 0, none⟩)] w fun e w' => e = .returned (.int .i64 n) ∧ w' = w := by
  go_enter Trym.func19, Trym.ntmps19
  go_wp2
  go_ret
  exact ⟨rfl, rfl⟩
theorem ccount_any (ao : Option Addr) (n c : Nat) (h : w.cell? ⟨b, 4, none⟩ = some (.slice ao n c)) : Calls Trym.prog 20 #[.pointer (some ⟨b, 0, none⟩)] w fun e w' => e = .returned (.int .i64 n) ∧ w' = w := by
  go_enter Trym.func20, Trym.ntmps20
  go_wp2
  go_ret
  exact ⟨rfl, rfl⟩
theorem ehash_any (g off n c i : Nat) (x : Int) (h : w.cell? ⟨b, 3, none⟩ = some (.slice (some ⟨g, off, none⟩) n c)) (hi : i < n) (hx : w.cell? ⟨g, off + i * 3, none⟩ = some (.int .u64 x)) :
    Calls Trym.prog 26 #[.pointer (some ⟨b, 0, none⟩), .int .i64 i] w fun e w' => e = .returned (.int .u64 x) ∧ w' = w := by
  go_enter Trym.func26, Trym.ntmps26
  go_wp2
  go_ret
  exact ⟨rfl, rfl⟩
theorem ekey_any (g off n c i : Nat) (x : ByteArray) (h : w.cell? ⟨b, 3, none⟩ = some (.slice (some ⟨g, off, none⟩) n c)) (hi : i < n) (hx : w.cell? ⟨g, off + i * 3 + 1, none⟩ = some (.string x)) :
    Calls Trym.prog 34 #[.pointer (some ⟨b, 0, none⟩), .int .i64 i] w fun e w' => e = .returned (.string x) ∧ w' = w := by
  go_enter Trym.func34, Trym.ntmps34
  go_wp2
  go_ret
  exact ⟨rfl, rfl⟩
theorem eval_any (g off n c i : Nat) (va : Option Addr) (vn vc : Nat) (h : w.cell? ⟨b, 3, none⟩ = some (.slice (some ⟨g, off, none⟩) n c)) (hi : i < n) (hx : w.cell? ⟨g, off + i * 3 + 2, none⟩ = some (.slice va vn vc)) :
    Calls Trym.prog 36 #[.pointer (some ⟨b, 0, none⟩), .int .i64 i] w fun e w' => e = .returned (.slice va vn vc) ∧ w' = w := by
  go_enter Trym.func36, Trym.ntmps36
  go_wp2
  go_ret
  exact ⟨rfl, rfl⟩
theorem child_any (g off n c i : Nat) (x : Option Addr) (h : w.cell? ⟨b, 4, none⟩ = some (.slice (some ⟨g, off, none⟩) n c)) (hi : i < n) (hx : w.cell? ⟨g, off + i, none⟩ = some (.pointer x)) :
    Calls Trym.prog 28 #[.pointer (some ⟨b, 0, none⟩), .int .i64 i] w fun e w' => e = .returned (.pointer x) ∧ w' = w := by
  go_enter Trym.func28, Trym.ntmps28
  go_wp2
  go_ret
  exact ⟨rfl, rfl⟩
end

/-- ZZNewNode. -/
theorem newNode_any (g em nm : Int) (w : World) :
    Calls Trym.prog 29 #[.int .u64 g, .int .u64 em, .int .u64 nm] w fun e w' => e = .returned (.pointer (some ⟨w.heap.size, 0, none⟩)) ∧
      w' = w.alloc (.cells #[.int .u64 g, .int .u64 em, .int .u64 nm, .slice none 0 0, .slice none 0 0] 62) := by
  go_enter Trym.func29, Trym.ntmps29
  go_wp2
  go_ret
  exact ⟨rfl, rfl⟩

/-- cloneBytes. -/
theorem cloneBytes_any (ao : Option Addr) (n cap : Nat) (nl : Bool) (bs : List Int) (w : World) (h : ISl .u8 w ao n nl bs) (hn : n ≤ 1048576) :
    Calls Trym.prog 6 #[.slice ao n cap] w fun e w' => ∃ ao' cap', e = .returned (.slice ao' n cap') ∧ OB w' ao' n nl bs ∧ Below w.heap.size w w' := by
  obtain ⟨h1, h2, h3⟩ := h
  have hq := fun wx => Lib.run_eql_slice_nil (P := Trym.prog) wx 23 5 ao n cap 0 0 Trym.underlying23
  rw [h2] at hq
  cases nl with
  | true =>
    have hao : ao = none := by cases ao <;> simp_all
    subst hao
    have hbs : bs = [] := by
      rcases h3 with h3 | ⟨b, off, e, _⟩
      · simpa using h3
      · cases e
    subst hbs
    have hn0 : n = 0 := by simpa using h1
    subst hn0
    clear h1 h2 h3
    go_enter Trym.func6, Trym.ntmps6
    go_wp2
    go_ret
    exact ⟨none, 0, rfl, ⟨rfl, .inl ⟨rfl, rfl, rfl⟩⟩, Below.refl _ _⟩
  | false =>
    obtain ⟨i0, hi0, hz0, hz1, hz2⟩ := info_parts Trym.info5
    have H1 : Hid (n = bs.length) := h1
    have H3 : Hid (RowAt w ao (bs.map (Value.int .u8))) := h3
    clear h1 h2 h3
    go_enter Trym.func6, Trym.ntmps6
    go_wp2_with (at_make; refine wpList_make_row _ rfl _ _ 23 rfl 5 i0 _ Trym.underlying23 hi0 hz0 hz1 rfl _ _ n rfl rfl (by rw [hz2]; omega) (by omega) ?_)
    have hb1 : Below w.heap.size w (w.alloc (.cells (madeCells #[.int .u8 0] n) 5)) := (Below.refl _ _).alloc (Nat.le_refl _) _
    have hr1 : (w.alloc (.cells (madeCells #[.int .u8 0] n) 5)).rowIs w.heap.size 5 n (fun j => if j < 0 then .int .u8 (bs.getD j 0) else .int .u8 0) := (World.rowIs_made w (.int .u8 0) n 5).congr (fun i _ => by simp)
    go_loopw [4] (fun i wr => ∃ k : Nat, k ≤ n ∧ i = .int .i64 k ∧ wr.rowIs w.heap.size 5 n (fun j => if j < k then .int .u8 (bs.getD j 0) else .int .u8 0) ∧ Below w.heap.size w wr) (fun i _ => n - (intOf i).toNat)
    case atStart => exact ⟨0, Nat.zero_le _, rfl, hr1, hb1⟩
    case round =>
      obtain ⟨k, hk, rfl, hrow, hbel⟩ := hrel
      clear hr1 hb1
      by_cases hlt : k < n
      · obtain ⟨b, off, hao, hc⟩ : ∃ b off, ao = some ⟨b, off, none⟩ ∧ wr.cell? ⟨b, off + k, none⟩ = some (.int .u8 (bs.getD k 0)) := by
          rcases H3.out with h3 | ⟨b, off, e, hc⟩
          · have := H1.out; simp at h3; subst h3; simp at this; omega
          · refine ⟨b, off, e, old_cell hbel (hc k _ ?_)⟩
            have hk' : k < bs.length := by rw [← H1.out]; exact hlt
            simp [hk']
        obtain ⟨x, HX⟩ : ∃ x, Hid (x = bs.getD k 0) := ⟨_, rfl⟩
        rw [← HX.out] at hc
        subst hao
        obtain ⟨u, hcu⟩ : ∃ u, wr.cell? ⟨w.heap.size, k, none⟩ = some u := ⟨_, hrow.cell hlt⟩
        have hfu := hrow.frozen k
        have hnext := (hrow.set k (.int .u8 x)).congr (g := fun j => if j < k + 1 then .int .u8 (bs.getD j 0) else .int .u8 0) (fun j hj => by
          by_cases e : j = k
          · subst e; simp [HX.out]
          · by_cases e2 : j < k
            · rw [if_neg e, if_pos e2, if_pos (by omega)]
            · rw [if_neg e, if_neg e2, if_neg (by omega)])
        clear hrow
        go_wp2
        go_roundw
        case rel => exact ⟨k + 1, by omega, by go_num, hnext, hbel.setCell (Nat.le_refl _) _⟩
        case measure => simp [intOf]; omega
      · obtain rfl : n = k := by omega
        go_wp2
        go_ret
        exact ⟨_, _, rfl, ⟨H1.out, .inr ⟨rfl, _, rfl, hrow.congr (fun j hj => by rw [if_pos hj])⟩⟩, hbel⟩
end Go.Proofs.Qxb6617096aMods
