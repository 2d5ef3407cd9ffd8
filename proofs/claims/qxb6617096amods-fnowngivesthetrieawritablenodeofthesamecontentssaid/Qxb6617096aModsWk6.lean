/-
  THE WALKS of (*trie).own and ZZOwn.
-/
import Derived.Test.Qxb6617096aModsWk5
import Derived.Deep.RegionHeld3
namespace Go.Proofs.Qxb6617096aMods
open Go.RowKit

theorem bel_drewN (w : World) (n : Nat) : Below w.heap.size w (w.drewN n) := ⟨rfl, rfl, rfl, Nat.le_refl _, fun _ _ => rfl⟩

theorem bel_alloc (w : World) (o : Obj) : Below w.heap.size w (w.alloc o) := (Below.refl _ _).alloc (Nat.le_refl _) _

/-- A node that has just been laid. -/
theorem node_new {w : World} {g em nm : Int} {es : List Ent} {ks : List (Option Addr)} {ae ap : Option Addr} {ne ce np cp : Nat} (hE : ES w ae ne es) (hP : PS w ap np ks) :
    NodeAt (w.alloc (.cells #[.int .u64 g, .int .u64 em, .int .u64 nm, .slice ae ne ce, .slice ap np cp] 62)) w.heap.size g em nm es ks :=
  ⟨by simp [go_sem], by simp [go_sem], by simp [go_sem], ⟨ae, ne, ce, by simp [go_sem], hE.below (bel_alloc _ _)⟩, ⟨ap, np, cp, by simp [go_sem], hP.below (bel_alloc _ _)⟩, _, heap_alloc_new _ _⟩

/-- own: none. -/
theorem own_nil (t : Nat) (g : Int) (w : World) (ht : w.cell? ⟨t, 2, none⟩ = some (.int .u64 g)) :
    Calls Trym.prog 32 #[.pointer (some ⟨t, 0, none⟩), .pointer none] w fun e w' => e = .returned (.pointer (some ⟨w.heap.size, 0, none⟩)) ∧ w' = w.alloc (.cells #[.int .u64 g, .int .u64 0, .int .u64 0, .slice none 0 0, .slice none 0 0] 62) := by
  go_enter Trym.func32, Trym.ntmps32
  go_wp2
  go_ret
  exact ⟨rfl, rfl⟩

/-- own: a node of the trie's own gen. -/
theorem own_same (t b : Nat) (g : Int) (w : World) (ht : w.cell? ⟨t, 2, none⟩ = some (.int .u64 g)) (hb : w.cell? ⟨b, 0, none⟩ = some (.int .u64 g)) :
    Calls Trym.prog 32 #[.pointer (some ⟨t, 0, none⟩), .pointer (some ⟨b, 0, none⟩)] w fun e w' => e = .returned (.pointer (some ⟨b, 0, none⟩)) ∧ ∃ m, w' = w.drewN m := by
  go_enter Trym.func32, Trym.ntmps32
  go_wp2
  go_quiet (fail)
  go_wp2
  go_ret
  exact ⟨rfl, _, rfl⟩

set_option maxHeartbeats 1000000 in
/-- own: another's node. -/
theorem own_other (t b : Nat) (g g' em nm : Int) (es : List Ent) (ks : List (Option Addr)) (w : World) (ht : w.cell? ⟨t, 2, none⟩ = some (.int .u64 g)) (hb : NodeAt w b g' em nm es ks) (hne : (g' == g) = false) (hes : es.length ≤ 131072) (hks : ks.length ≤ 131072) :
    Calls Trym.prog 32 #[.pointer (some ⟨t, 0, none⟩), .pointer (some ⟨b, 0, none⟩)] w fun e w' => ∃ b', e = .returned (.pointer (some ⟨b', 0, none⟩)) ∧ NodeAt w' b' g em nm es ks ∧ w.heap.size ≤ b' ∧ Below w.heap.size w w' := by
  obtain ⟨c0, c1, c2, ⟨ae, ne, ce, c3, hE⟩, ⟨ap, np, cp, c4, hP⟩, _⟩ := hb
  have hne' : ne ≤ 131072 := by rw [hE.1]; exact hes
  have hnp' : np ≤ 131072 := by rw [hP.1]; exact hks
  have HE : Hid (ES w ae ne es) := hE
  have HP : Hid (PS w ap np ks) := hP
  clear hE hP
  go_enter Trym.func32, Trym.ntmps32
  go_wp2
  go_quiet (fail)
  go_wp2
  go_region_held3 (fun w' => w'.cell? ⟨t, 2, none⟩ = some (.int .u64 g) ∧ w'.cell? ⟨b, 1, none⟩ = some (.int .u64 em) ∧ w'.cell? ⟨b, 2, none⟩ = some (.int .u64 nm) ∧ w'.cell? ⟨b, 3, none⟩ = some (.slice ae ne ce) ∧ w'.cell? ⟨b, 4, none⟩ = some (.slice ap np cp)) (go_keep)
    (first
      | (go_at_call 37; refine (cloneE_any ae ne ce es _ ?_ hne').mono ?_; (first | exact HE.out | exact HE.out.below bP0); rintro e' wE ⟨ae', ce', rfl, rE, bE⟩; have bE0 : Below w.heap.size w wE := (by first | exact (bel_drewN w _).trans bE | exact bP0.trans (bE.mono bP0.size)); have k0 := old_cell bE0 ht; have k1 := old_cell bE0 c1; have k2 := old_cell bE0 c2; have k3 := old_cell bE0 c3; have k4 := old_cell bE0 c4)
      | (go_at_call 38; refine (cloneP_any ap np cp ks _ ?_ hnp').mono ?_; (first | exact HP.out | exact HP.out.below bE0); rintro e' wP ⟨ap', cp', rfl, rP, bP⟩; have bP0 : Below w.heap.size w wP := (by first | exact (bel_drewN w _).trans bP | exact bE0.trans (bP.mono bE0.size)); have k0 := old_cell bP0 ht; have k1 := old_cell bP0 c1; have k2 := old_cell bP0 c2; have k3 := old_cell bP0 c3; have k4 := old_cell bP0 c4))
  have hnode := node_new (g := g) (em := em) (nm := nm) (ce := ce') (cp := cp') (rE.below bP) rP
  clear rE rP k0 k1 k2 k3 k4
  go_wp2
  go_ret
  exact ⟨_, rfl, hnode, bP0.size, bP0.trans ((bel_alloc _ _).mono bP0.size)⟩

/-- ZZOwn at a node. -/
theorem zzOwn_some (b : Nat) (g g' em nm : Int) (es : List Ent) (ks : List (Option Addr)) (w : World) (hb : NodeAt w b g' em nm es ks) (hes : es.length ≤ 131072) (hks : ks.length ≤ 131072) :
    Calls Trym.prog 15 #[.int .u64 g, .pointer (some ⟨b, 0, none⟩)] w fun e w' => ∃ b', e = .returned (.pointer (some ⟨b', 0, none⟩)) ∧ NodeAt w' b' g em nm es ks ∧ (b' = b ↔ g' = g) ∧ Below w.heap.size w w' := by
  have hlt : b < w.heap.size := World.block_lt_of_cell? w _ hb.1
  have HB : Hid (NodeAt w b g' em nm es ks) := hb
  clear hb
  have hb1 := bel_alloc w (.cells #[.pointer none, .int .i64 0, .int .u64 g] 45)
  have HB1 : Hid (NodeAt (w.alloc (.cells #[.pointer none, .int .i64 0, .int .u64 g] 45)) b g' em nm es ks) := HB.out.below hb1
  have hgen : (w.alloc (.cells #[.pointer none, .int .i64 0, .int .u64 g] 45)).cell? ⟨w.heap.size, 2, none⟩ = some (.int .u64 g) := by simp [go_sem]
  by_cases hg : g' = g
  · subst hg
    go_enter Trym.func15, Trym.ntmps15
    go_wp2_with fail
    refine (own_same w.heap.size b g' _ hgen HB1.out.1).mono ?_
    rintro e w1 ⟨rfl, m, rfl⟩
    go_wp2_with fail
    go_ret
    exact ⟨b, rfl, HB1.out.below (bel_drewN _ _), by simp, hb1.trans ((bel_drewN _ m).mono hb1.size)⟩
  · have hne : (g' == g) = false := by simpa using hg
    go_enter Trym.func15, Trym.ntmps15
    go_wp2_with fail
    refine (own_other w.heap.size b g g' em nm es ks _ hgen HB1.out hne hes hks).mono ?_
    rintro e w1 ⟨b', rfl, hn, hsz, hbel⟩
    go_wp2_with fail
    go_ret
    refine ⟨b', rfl, hn, ⟨fun e => ?_, fun e => absurd e hg⟩, hb1.trans (hbel.mono hb1.size)⟩
    simp at hsz
    omega

/-- ZZOwn at none. -/
theorem zzOwn_nil (g : Int) (w : World) :
    Calls Trym.prog 15 #[.int .u64 g, .pointer none] w fun e w' => ∃ b', e = .returned (.pointer (some ⟨b', 0, none⟩)) ∧ NodeAt w' b' g 0 0 [] [] ∧ Below w.heap.size w w' := by
  have hb1 := bel_alloc w (.cells #[.pointer none, .int .i64 0, .int .u64 g] 45)
  have hgen : (w.alloc (.cells #[.pointer none, .int .i64 0, .int .u64 g] 45)).cell? ⟨w.heap.size, 2, none⟩ = some (.int .u64 g) := by simp [go_sem]
  go_enter Trym.func15, Trym.ntmps15
  go_wp2_with fail
  refine (own_nil w.heap.size g _ hgen).mono ?_
  rintro e w1 ⟨rfl, rfl⟩
  go_wp2_with fail
  go_ret
  have hn0 := node_new (w := w.alloc (.cells #[.pointer none, .int .i64 0, .int .u64 g] 45)) (g := g) (em := 0) (nm := 0) (es := []) (ks := []) (ae := none) (ap := none) (ne := 0) (ce := 0) (np := 0) (cp := 0) ⟨rfl, .inl rfl⟩ ⟨rfl, .inl rfl⟩
  have hs : (w.alloc (.cells #[.pointer none, .int .i64 0, .int .u64 g] 45)).heap.size = w.heap.size + 1 := by simp
  rw [hs] at hn0
  exact ⟨_, rfl, hn0, hb1.trans ((bel_alloc _ _).mono hb1.size)⟩
end Go.Proofs.Qxb6617096aMods
