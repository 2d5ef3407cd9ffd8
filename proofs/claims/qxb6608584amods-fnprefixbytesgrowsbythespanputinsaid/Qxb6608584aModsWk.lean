/-
  THE WALKS of seat b6608584aM: spans, prefixes, their bytes.
-/
import Derived.Test.Qxb6608584aModsProg
import Derived.Test.Qxb6608584aModsPlain
import Derived.WalkKit
import Derived.WalkSpells
import Derived.RowKit3
namespace Go.Proofs.Qxb6608584aMods
open Go.RowKit

theorem ret_int {k : IntKind} {a b : Int} (h : a = b) : Ending.returned (.int k a) = .returned (.int k b) := by rw [h]
theorem val_int {k : IntKind} {a b : Int} (h : a = b) : Value.int k a = Value.int k b := by rw [h]

theorem Trym.info47 : (Trym.prog.info? 47).map (fun i => (i.zero, i.size, i.bytes)) = some (some (.agg #[.int .i64 0, .int .i64 0, .int .i64 0]), 3, 24) := by kernel_rfl

/-- ZZnewSpan: the three numbers; one new block. -/
theorem newSpan_any (n a s : Int) (w : World) :
    Calls Trym.prog 17 #[.int .i64 n, .int .i64 a, .int .i64 s] w fun e w' => e = .returned (.agg #[.int .i64 n, .int .i64 a, .int .i64 s]) ∧ w' = w.alloc (.cells #[.int .i64 n, .int .i64 a, .int .i64 s] 47) := by
  go_enter Trym.func17, Trym.ntmps17
  go_wp2
  exact bodyPost_ret (v := .agg #[.int .i64 n, .int .i64 a, .int .i64 s]) (by simp [results, Trym.results17, go_sem]) rfl ⟨rfl, rfl⟩

/-- ZZnewPrefixSpans: a new block; its cell 1 holds the spans. -/
theorem newPrefix_any (ao : Option Addr) (n c : Nat) (w : World) :
    Calls Trym.prog 18 #[.slice ao n c] w fun e w' => e = .returned (.pointer (some ⟨w.heap.size, 0, none⟩)) ∧
      w' = w.alloc (.cells #[.slice none 0 0, .slice ao n c, .int .i64 0, .int .i64 0, .int .i64 0, .nilIface, .int .i64 0, .slice none 0 0] 35) := by
  go_enter Trym.func18, Trym.ntmps18
  go_wp2
  go_ret
  exact ⟨rfl, rfl⟩

/-- WHAT A PREFIX HOLDS: its cell 1 the slice, the slice's row the spans. -/
def Pref (w : World) (b : Nat) (L : List (Int × Int × Int)) : Prop :=
  ∃ g cap, w.cell? ⟨b, 1, none⟩ = some (.slice (some ⟨g, 0, none⟩) L.length cap) ∧
    ∀ k (h : k < L.length), w.cell? ⟨g, k * 3, none⟩ = some (.int .i64 (L[k]'h).1) ∧ w.cell? ⟨g, k * 3 + 1, none⟩ = some (.int .i64 (L[k]'h).2.1) ∧ w.cell? ⟨g, k * 3 + 2, none⟩ = some (.int .i64 (L[k]'h).2.2)

/-- (*prefix).bytes: the sizes added up. -/
theorem bytes_any (L : List (Int × Int × Int)) (w : World) (b : Nat) (hp : Pref w b L) (hn : L.length ≤ 100000) :
    Calls Trym.prog 25 #[.pointer (some ⟨b, 0, none⟩)] w fun e w' => e = .returned (.int .i64 (wrap64 (tot L))) ∧ Below w.heap.size w w' := by
  obtain ⟨g, cap, hb, hc⟩ := hp
  obtain ⟨n, HL⟩ : ∃ n, Hid (n = L.length) := ⟨_, rfl⟩
  rw [← HL.out] at hb hn
  have hg : ∀ k, k < n → g < w.heap.size := fun k hk => World.block_lt_of_cell? w ⟨g, k * 3, none⟩ (hc k (by rw [← HL.out]; exact hk)).1
  go_enter Trym.func25, Trym.ntmps25
  go_wp2
  go_loopw [3, 11] (fun s i wr => ∃ k : Nat, k ≤ n ∧ i = .int .i64 k ∧ s = .int .i64 (wrap64 (tot (L.take k))) ∧ Below w.heap.size w wr) (fun _ i _ => n - (intOf i).toNat)
  case atStart => exact ⟨0, Nat.zero_le _, rfl, by rw [List.take_zero]; exact val_int wrap_zero.symm, Below.refl _ _⟩
  case round =>
    obtain ⟨k, hk, rfl, rfl, hbel⟩ := hrel
    by_cases hlt : k < n
    · have hkL : k < L.length := by rw [← HL.out]; exact hlt
      obtain ⟨c0, c1, c2⟩ := hc k hkL
      have hgk := hg k hlt
      rw [← hbel.cell (by exact hgk)] at c0 c1 c2
      obtain ⟨x0, e0⟩ : ∃ x, x = (L[k]'hkL).1 := ⟨_, rfl⟩
      obtain ⟨x1, e1⟩ : ∃ x, x = (L[k]'hkL).2.1 := ⟨_, rfl⟩
      obtain ⟨x2, e2⟩ : ∃ x, x = (L[k]'hkL).2.2 := ⟨_, rfl⟩
      rw [← e0] at c0; rw [← e1] at c1; rw [← e2] at c2
      have HS : Hid (tot (L.take (k + 1)) = tot (L.take k) + x2) := by rw [e2]; exact tot_take_succ L k hkL
      obtain ⟨t, HT⟩ : ∃ t, Hid (t = tot (L.take k)) := ⟨_, rfl⟩
      rw [← HT.out]
      clear e0 e1 e2 hc hb
      go_wp2
      go_roundw
      case rel => exact ⟨k + 1, by omega, by go_num, val_int (by rw [HS.out, ← HT.out]; exact wrap_add_r _ _), hbel.alloc hbel.size _⟩
      case measure => simp [intOf]; omega
    · have hkn : k = L.length := by rw [← HL.out]; omega
      have HR : Hid (wrap64 (tot (L.take k)) = wrap64 (tot L)) := by rw [hkn, List.take_length]; exact rfl
      clear hkn
      go_wp2
      go_ret
      exact ⟨ret_int HR.out, hbel⟩

/-- ZZbytes. -/
theorem zzBytes_any (L : List (Int × Int × Int)) (w : World) (b : Nat) (hp : Pref w b L) (hn : L.length ≤ 100000) :
    Calls Trym.prog 14 #[.pointer (some ⟨b, 0, none⟩)] w fun e w' => e = .returned (.int .i64 (wrap64 (tot L))) ∧ Below w.heap.size w w' := by
  go_enter Trym.func14, Trym.ntmps14
  go_wp2_with (go_at_call 25; refine (bytes_any L _ b hp hn).mono ?_; rintro e w' ⟨rfl, hbel⟩)
  go_ret
  exact ⟨rfl, by assumption⟩
end Go.Proofs.Qxb6608584aMods
