/-
  THE WALK of FnOwnGivesTheTrieAWritableNodeOfTheSameContents.
-/
import Derived.Test.Qxb6617096aModsWk4
import Derived.Test.Qxb6617096aModsWk7
import Derived.Test.Qxb6617096aModsWk9
namespace Go.Proofs.Qxb6617096aMods
open Go.RowKit

/-- Two nodes' pointers are alike where the blocks are one. -/
theorem eql_nodes (b1 b2 : Nat) (w : World) (h1 : ∃ c : Array Value, w.heap[b1]? = some (Obj.cells c 62 (0, 0))) (h2 : ∃ c : Array Value, w.heap[b2]? = some (Obj.cells c 62 (0, 0))) :
    (binOp .eql 26 (.pointer (some ⟨b1, 0, none⟩)) (.pointer (some ⟨b2, 0, none⟩))).run Trym.prog w = .ok (.bool (decide (b1 = b2))) w := by
  obtain ⟨j, hj, hsz⟩ : ∃ j, Trym.prog.info? 62 = some j ∧ j.size = 5 := by
    have h : (Trym.prog.info? 62).map (·.size) = some 5 := by kernel_rfl
    obtain ⟨j, hj, hs⟩ := Option.map_eq_some_iff.1 h
    exact ⟨j, hj, hs⟩
  obtain ⟨c1, h1⟩ := h1
  obtain ⟨c2, h2⟩ := h2
  by_cases e : b1 = b2
  · subst e
    rw [decide_eq_true rfl]
    exact run_eql_ptr_same w _ Trym.underlying26 hj
  · rw [decide_eq_false e]
    exact run_eql_ptr_other w (a := ⟨b1, 0, none⟩) (b := ⟨b2, 0, none⟩) Trym.underlying26 hj (by omega) (fun h => e (by cases h; rfl)) h1 h2

theorem dec_of {b1 b : Nat} {x y : Int} (h : b1 = b ↔ x = y) : decide (b1 = b) = (x == y) := by
  by_cases e : x = y
  · rw [decide_eq_true (h.2 e)]; simp [e]
  · rw [decide_eq_false (fun k => e (h.1 k))]; simp [e]

/-- What the node holds: nothing for none, else what was given. -/
def Same (nn : Bool) (em nm : Int) (es : List Ent) (ks : List (Option Addr)) (E M : Int) (Es : List Ent) (Ks : List (Option Addr)) : Prop :=
  (nn = true ∧ E = 0 ∧ M = 0 ∧ Es = [] ∧ Ks = []) ∨ (nn = false ∧ E = em ∧ M = nm ∧ Es = es ∧ Ks = ks)

/-- The kids, where there are any. -/
def KP (nn : Bool) (w : World) (ak : Option Addr) (nk : Nat) (ks : List (Option Addr)) : Prop := nn = false → PS w ak nk ks
theorem KP.below {nn : Bool} {w w' : World} {ak : Option Addr} {nk : Nat} {ks : List (Option Addr)} (h : KP nn w ak nk ks) (hb : Below w.heap.size w w') : KP nn w' ak nk ks := fun e => (h e).below hb

theorem holds_any (b : Nat) (nn : Bool) (gen em nm E M : Int) (es Es : List Ent) (ks Ks : List (Option Addr)) (ao ak : Option Addr) (n c nk ck : Nat) (w : World) (hS : Same nn em nm es ks E M Es Ks) (hN : NodeAt w b gen E M Es Ks) (hE : ES w ao n es) (hK : KP nn w ak nk ks) (hn : n ≤ 131072) (hnk : nk ≤ 131072)
    (hes : Hid (∀ (i : Nat) e, es[i]? = some e → e.bs.length ≤ 1048576)) :
    Calls Trym.prog 17 #[.pointer (some ⟨b, 0, none⟩), .bool nn, .int .u64 em, .int .u64 nm, .slice ao n c, .slice ak nk ck] w fun r w' => r = .returned (.bool true) ∧ Below w.heap.size w w' := by
  rcases hS with ⟨rfl, rfl, rfl, rfl, rfl⟩ | ⟨rfl, rfl, rfl, rfl, rfl⟩
  · refine (holds_none b gen em nm ao ak n c nk ck w hN).mono ?_
    rintro r w' ⟨rfl, m, rfl⟩
    exact ⟨rfl, bel_drewN _ _⟩
  · refine (holds_some b gen E M Es Ks ao ak n c nk ck w hN hE (hK rfl) hn hnk hes).mono ?_
    rintro r w' ⟨rfl, m, rfl⟩
    exact ⟨rfl, bel_drewN _ _⟩

theorem NodeAt.gen {w : World} {b : Nat} {gen em nm : Int} {es : List Ent} {ks : List (Option Addr)} (h : NodeAt w b gen em nm es ks) : w.cell? ⟨b, 0, none⟩ = some (.int .u64 gen) := h.1
theorem NodeAt.block {w : World} {b : Nat} {gen em nm : Int} {es : List Ent} {ks : List (Option Addr)} (h : NodeAt w b gen em nm es ks) : ∃ c : Array Value, w.heap[b]? = some (Obj.cells c 62 (0, 0)) := h.2.2.2.2.2

set_option maxRecDepth 20000 in
set_option maxHeartbeats 2000000 in
theorem own_walk (g1 g2 ng em nm : Int) (nn : Bool) (ao aw : Option Addr) (n c m cw : Nat) (es : List Ent) (wl : Bool) (zs : List Int) (w : World) (hE : ES w ao n es) (hW : ISl .u64 w aw m wl zs) (hn : n ≤ 9223372036854775807) (hm : m ≤ 9223372036854775807) :
    Calls Trym.prog 4 #[.int .u64 g1, .int .u64 g2, .int .u64 ng, .bool nn, .int .u64 em, .int .u64 nm, .slice ao n c, .slice aw m cw] w fun e w' => e = .returned (.bool true) ∧ Below w.heap.size w w' := by
  have HE : Hid (ES w ao n es) := hE
  have HW : Hid (ISl .u64 w aw m wl zs) := hW
  clear hE hW
  go_enter Trym.func4, Trym.ntmps4
  go_wp2_with fail
  refine (guard_any g1 g2 ng em nm nn ao aw n c m cw es w HE.out hn hm).mono ?_
  rintro r w0 ⟨⟨t, rfl, _⟩, hw0⟩
  rw [hw0]
  clear hw0
  cases t with
  | false =>
    go_wp2_with fail
    go_ret
    exact ⟨rfl, Below.refl _ _⟩
  | true =>
  by_cases hm2 : m ≤ 131072
  rotate_left
  · go_wp2_with fail
    go_ret
    exact ⟨rfl, Below.refl _ _⟩
  go_wp2_with fail
  refine (tooBig_any ao n c _ es w HE.out hn (by omega) (by omega)).mono ?_
  rintro r w1 ⟨⟨t, rfl, ht⟩, hw1⟩
  have hb1 : Below w.heap.size w w1 := by obtain ⟨k, rfl⟩ := hw1; exact bel_drewN _ _
  clear hw1
  cases t with
  | true =>
    clear ht
    go_wp2_with fail
    go_ret
    exact ⟨rfl, hb1⟩
  | false =>
  obtain ⟨hn2, hes0⟩ := ht rfl
  have hes : Hid (∀ (i : Nat) e, es[i]? = some e → e.bs.length ≤ 1048576) := hes0
  clear ht hes0
  go_wp2_with fail
  refine (cloneEntries_any ao n c es w1 (HE.out.below hb1) hn2 hes).mono ?_
  rintro r w2 ⟨ao2, c2, rfl, hE2, hb2⟩
  have B2 : Hid (Below w.heap.size w w2) := hb1.trans (hb2.mono hb1.size)
  have HE2 : Hid (ES w2 ao2 n es) := hE2
  clear hE2 hb2 hb1
  go_wp2_with fail
  refine (cloneWords_any aw m cw wl zs w2 (HW.out.below B2.out) (by omega)).mono ?_
  rintro r w3 ⟨aw3, cw3, rfl, hW3, hb3⟩
  have B3 : Hid (Below w.heap.size w w3) := B2.out.trans (hb3.mono B2.out.size)
  have HE3 : Hid (ES w3 ao2 n es) := HE2.out.below hb3
  have HW3 : Hid (ISl .u64 w3 aw3 m wl zs) := hW3
  clear hW3 hb3 B2 HE2 HE HW
  cases nn with
  | true =>
    go_wp2_with fail
    refine (build_none ng em nm ao2 aw3 n c2 m cw3 w3).mono ?_
    rintro r w4 ⟨rfl, hw4⟩
    rw [hw4]
    clear hw4
    go_wp2_with fail
    refine (zzOwn_nil g1 w3).mono ?_
    rintro r w5 ⟨b1, rfl, hn5, hb5⟩
    have HS : Hid (Same true em nm es [] 0 0 [] []) := .inl ⟨rfl, rfl, rfl, rfl, rfl⟩
    have HK5 : Hid (KP true w5 none 0 []) := fun h => by cases h
    have hmk : 0 ≤ 131072 := by omega
    have HE5 : Hid (ES w5 ao2 n es) := HE3.out.below hb5
    have B5 : Hid (Below w.heap.size w w5) := B3.out.trans (hb5.mono B3.out.size)
    have HN5 : Hid (NodeAt w5 b1 g1 0 0 [] []) := hn5
    clear hn5 hb5 HE3 HW3 B3
    go_wp2_with (go_at_call 16; refine (gen_any b1 w5 g1 HN5.out.gen).mono ?_; rintro r w' ⟨rfl, hw⟩; rw [hw]; clear hw)
    refine (holds_any b1 true g1 em nm 0 0 es [] [] [] ao2 none n c2 0 0 w5 HS.out HN5.out HE5.out HK5.out hn2 hmk hes).mono ?_
    rintro r w6 ⟨rfl, hb6⟩
    have HN6 : Hid (NodeAt w6 b1 g1 0 0 [] []) := HN5.out.below hb6
    have HE6 : Hid (ES w6 ao2 n es) := HE5.out.below hb6
    have HK6 : Hid (KP true w6 none 0 []) := HK5.out.below hb6
    have B6 : Hid (Below w.heap.size w w6) := B5.out.trans (hb6.mono B5.out.size)
    clear hb6 HN5 HE5 HK5 B5
    go_wp2_with fail
    refine (zzOwn_some b1 g1 g1 0 0 [] [] w6 HN6.out (by simp) (by simp)).mono ?_
    rintro r w7 ⟨b', rfl, hn7, hiff7, hb7⟩
    obtain rfl : b' = b1 := hiff7.2 rfl
    have hself := neq_self (some ⟨b', 0, none⟩)
    have HN7 : Hid (NodeAt w7 b' g1 0 0 [] []) := hn7
    have HE7 : Hid (ES w7 ao2 n es) := HE6.out.below hb7
    have HK7 : Hid (KP true w7 none 0 []) := HK6.out.below hb7
    have B7 : Hid (Below w.heap.size w w7) := B6.out.trans (hb7.mono B6.out.size)
    clear hn7 hiff7 hb7 HN6 HE6 HK6 B6
    go_wp2_with fail
    refine (zzOwn_some b' g2 g1 0 0 [] [] w7 HN7.out (by simp) (by simp)).mono ?_
    rintro r w8 ⟨b2, rfl, hn8, hiff8, hb8⟩
    have HN8 : Hid (NodeAt w8 b2 g2 0 0 [] []) := hn8
    have HN8' : Hid (NodeAt w8 b' g1 0 0 [] []) := HN7.out.below hb8
    have HE8 : Hid (ES w8 ao2 n es) := HE7.out.below hb8
    have HK8 : Hid (KP true w8 none 0 []) := HK7.out.below hb8
    have B8 : Hid (Below w.heap.size w w8) := B7.out.trans (hb8.mono B7.out.size)
    have HIFF8 : Hid (b2 = b' ↔ g1 = g2) := hiff8
    clear hn8 hiff8 hb8 HN7 HE7 HK7 B7 hself
    go_wp2_with (go_at_call 16; refine (gen_any b2 w8 g2 HN8.out.gen).mono ?_; rintro r w' ⟨rfl, hw⟩; rw [hw]; clear hw)
    refine (holds_any b2 true g2 em nm 0 0 es [] [] [] ao2 none n c2 0 0 w8 HS.out HN8.out HE8.out HK8.out hn2 hmk hes).mono ?_
    rintro r w9 ⟨rfl, hb9⟩
    have hcmp2 := eql_nodes b2 b' w9 (HN8.out.below hb9).block (HN8'.out.below hb9).block
    have hdec2 : decide (b2 = b') = (g1 == g2) := dec_of HIFF8.out
    rw [hdec2] at hcmp2
    have B9 : Hid (Below w.heap.size w w9) := B8.out.trans (hb9.mono B8.out.size)
    clear hdec2 hb9 HN8 HN8' HE8 HK8 B8 HIFF8
    go_wp2_with fail
    go_ret
    exact ⟨rfl, B9.out⟩
  | false =>
    go_wp2_with fail
    refine (build_some ng em nm ao2 aw3 n c2 m cw3 es wl zs w3 HE3.out HW3.out hn2 hm2 hes).mono ?_
    rintro r w4 ⟨b, ks, ak, ck, rfl, hn4, hk4, hb4⟩
    have hesl : es.length ≤ 131072 := by rw [← HE3.out.1]; exact hn2
    have hksl : ks.length ≤ 131072 := by rw [← hk4.1]; exact hm2
    have B4 : Hid (Below w.heap.size w w4) := B3.out.trans (hb4.mono B3.out.size)
    have HE4 : Hid (ES w4 ao2 n es) := HE3.out.below hb4
    have HK4 : Hid (PS w4 ak m ks) := hk4
    have HN4 : Hid (NodeAt w4 b ng em nm es ks) := hn4
    clear hn4 hk4 hb4 HE3 HW3 B3
    go_wp2_with fail
    refine (zzOwn_some b g1 ng em nm es ks w4 HN4.out hesl hksl).mono ?_
    rintro r w5 ⟨b1, rfl, hn5, hiff, hb5⟩
    have HIFF : Hid (b1 = b ↔ ng = g1) := hiff
    have HS : Hid (Same false em nm es ks em nm es ks) := .inr ⟨rfl, rfl, rfl, rfl, rfl⟩
    have HK5 : Hid (KP false w5 ak m ks) := fun _ => HK4.out.below hb5
    have HE5 : Hid (ES w5 ao2 n es) := HE4.out.below hb5
    have B5 : Hid (Below w.heap.size w w5) := B4.out.trans (hb5.mono B4.out.size)
    have HN5 : Hid (NodeAt w5 b1 g1 em nm es ks) := hn5
    have HNb : Hid (NodeAt w5 b ng em nm es ks) := HN4.out.below hb5
    clear hn5 hb5 hiff HE4 HK4 HN4 B4
    go_wp2_with (go_at_call 16; refine (gen_any b1 w5 g1 HN5.out.gen).mono ?_; rintro r w' ⟨rfl, hw⟩; rw [hw]; clear hw)
    refine (holds_any b1 false g1 em nm em nm es es ks ks ao2 ak n c2 m ck w5 HS.out HN5.out HE5.out HK5.out hn2 hm2 hes).mono ?_
    rintro r w6 ⟨rfl, hb6⟩
    have HN6 : Hid (NodeAt w6 b1 g1 em nm es ks) := HN5.out.below hb6
    have HE6 : Hid (ES w6 ao2 n es) := HE5.out.below hb6
    have HK6 : Hid (KP false w6 ak m ks) := HK5.out.below hb6
    have B6 : Hid (Below w.heap.size w w6) := B5.out.trans (hb6.mono B5.out.size)
    have hcmp := eql_nodes b1 b w6 HN6.out.block (HNb.out.below hb6).block
    have hdec : decide (b1 = b) = (ng == g1) := dec_of HIFF.out
    rw [hdec] at hcmp
    clear hdec HNb HIFF
    clear hb6 HN5 HE5 HK5 B5
    go_wp2_with fail
    refine (zzOwn_some b1 g1 g1 em nm es ks w6 HN6.out (hesl) (hksl)).mono ?_
    rintro r w7 ⟨b', rfl, hn7, hiff7, hb7⟩
    obtain rfl : b' = b1 := hiff7.2 rfl
    have hself := neq_self (some ⟨b', 0, none⟩)
    have HN7 : Hid (NodeAt w7 b' g1 em nm es ks) := hn7
    have HE7 : Hid (ES w7 ao2 n es) := HE6.out.below hb7
    have HK7 : Hid (KP false w7 ak m ks) := HK6.out.below hb7
    have B7 : Hid (Below w.heap.size w w7) := B6.out.trans (hb7.mono B6.out.size)
    clear hn7 hiff7 hb7 HN6 HE6 HK6 B6 hcmp
    go_wp2_with fail
    refine (zzOwn_some b' g2 g1 em nm es ks w7 HN7.out (hesl) (hksl)).mono ?_
    rintro r w8 ⟨b2, rfl, hn8, hiff8, hb8⟩
    have HN8 : Hid (NodeAt w8 b2 g2 em nm es ks) := hn8
    have HN8' : Hid (NodeAt w8 b' g1 em nm es ks) := HN7.out.below hb8
    have HE8 : Hid (ES w8 ao2 n es) := HE7.out.below hb8
    have HK8 : Hid (KP false w8 ak m ks) := HK7.out.below hb8
    have B8 : Hid (Below w.heap.size w w8) := B7.out.trans (hb8.mono B7.out.size)
    have HIFF8 : Hid (b2 = b' ↔ g1 = g2) := hiff8
    clear hn8 hiff8 hb8 HN7 HE7 HK7 B7 hself
    go_wp2_with (go_at_call 16; refine (gen_any b2 w8 g2 HN8.out.gen).mono ?_; rintro r w' ⟨rfl, hw⟩; rw [hw]; clear hw)
    refine (holds_any b2 false g2 em nm em nm es es ks ks ao2 ak n c2 m ck w8 HS.out HN8.out HE8.out HK8.out hn2 hm2 hes).mono ?_
    rintro r w9 ⟨rfl, hb9⟩
    have hcmp2 := eql_nodes b2 b' w9 (HN8.out.below hb9).block (HN8'.out.below hb9).block
    have hdec2 : decide (b2 = b') = (g1 == g2) := dec_of HIFF8.out
    rw [hdec2] at hcmp2
    have B9 : Hid (Below w.heap.size w w9) := B8.out.trans (hb9.mono B8.out.size)
    clear hdec2 hb9 HN8 HN8' HE8 HK8 B8 HIFF8
    go_wp2_with fail
    go_ret
    exact ⟨rfl, B9.out⟩
end Go.Proofs.Qxb6617096aMods
