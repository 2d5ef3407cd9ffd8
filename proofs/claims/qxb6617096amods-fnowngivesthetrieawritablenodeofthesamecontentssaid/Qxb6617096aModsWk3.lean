/-
  THE WALKS of seat b6617096aM: the two guards on lengths.
-/
import Derived.Test.Qxb6617096aModsWk2
namespace Go.Proofs.Qxb6617096aMods
open Go.RowKit

/-- A slice of entries at an index. -/
theorem ES.at {w : World} {ao : Option Addr} {n : Nat} {es : List Ent} (h : ES w ao n es) (i : Nat) (hi : i < n) :
    ∃ e b off va vn vc, es[i]? = some e ∧ ao = some ⟨b, off, none⟩ ∧ w.cell? ⟨b, off + i * 3, none⟩ = some (.int .u64 e.h) ∧ w.cell? ⟨b, off + i * 3 + 1, none⟩ = some (.string e.k) ∧
      w.cell? ⟨b, off + i * 3 + 2, none⟩ = some (.slice va vn vc) ∧ ISl .u8 w va vn e.nl e.bs := by
  obtain ⟨h1, h2⟩ := h
  have hi' : i < es.length := by omega
  obtain ⟨e, he⟩ : ∃ e, es[i]? = some e := ⟨_, List.getElem?_eq_getElem hi'⟩
  rcases h2 with h2 | ⟨b, off, hao, hc⟩
  · subst h2; simp at hi'
  · obtain ⟨c0, c1, va, vn, vc, c2, hv⟩ := hc i e he
    exact ⟨e, b, off, va, vn, vc, he, hao, c0, c1, c2, hv⟩

/-- It answers a bool; where that is false, p holds. -/
def Tells (e : Ending) (p : Prop) : Prop := ∃ t : Bool, e = .returned (.bool t) ∧ (t = false → p)

set_option maxHeartbeats 400000 in
/-- The first guard answers. -/
theorem guard_any (g1 g2 ng em nm : Int) (nn : Bool) (ao a2 : Option Addr) (n c n2 c2 : Nat) (es : List Ent) (w : World) (h : ES w ao n es) (hn : n ≤ 9223372036854775807) (hn2 : n2 ≤ 9223372036854775807) :
    Calls Trym.prog 10 #[.int .u64 g1, .int .u64 g2, .int .u64 ng, .bool nn, .int .u64 em, .int .u64 nm, .slice ao n c, .slice a2 n2 c2] w fun e w' => Tells e True ∧ w' = w := by
  have H : Hid (ES w ao n es) := h
  clear h
  by_cases h1 : n ≤ 1048576
  rotate_left
  · go_enter Trym.func10, Trym.ntmps10
    go_wp2
    go_ret
    exact ⟨⟨_, rfl, fun _ => trivial⟩, rfl⟩
  · go_enter Trym.func10, Trym.ntmps10
    go_wp2
    go_loop [17, 18] (fun z i => ∃ k s : Nat, k ≤ n ∧ s ≤ 1048576 ∧ i = .int .i64 k ∧ z = .int .i64 s) (fun _ i => n - (intOf i).toNat)
    case atStart => exact ⟨0, n, Nat.zero_le _, h1, rfl, rfl⟩
    case round =>
      obtain ⟨k, s, hk, hs, rfl, rfl⟩ := hrel
      by_cases hlt : k < n
      · obtain ⟨e, b, off, va, vn, vc, _, hao, e0, e1, e2, _⟩ := H.out.at k hlt
        subst hao
        go_wp2
        all_goals first
          | (go_ret; exact ⟨⟨_, rfl, fun _ => trivial⟩, rfl⟩)
          | (go_round; case rel => exact ⟨k + 1, s + e.k.size + vn, by omega, by omega, by go_num, by go_num⟩
             case measure => simp [intOf]; omega)
      · go_wp2
        all_goals (go_ret; exact ⟨⟨_, rfl, fun _ => trivial⟩, rfl⟩)

set_option maxHeartbeats 1000000 in
/-- entriesTooBig: where it says no, the entries are few and each value is short. -/
theorem tooBig_any (ao : Option Addr) (n c : Nat) (S : Int) (es : List Ent) (w : World) (h : ES w ao n es) (hn : n ≤ 9223372036854775807) (hS : 0 ≤ S) (hS' : S ≤ 1048576) :
    Calls Trym.prog 11 #[.slice ao n c, .int .i64 S] w fun e w' => Tells e (n ≤ 131072 ∧ ∀ (i : Nat) e, es[i]? = some e → e.bs.length ≤ 1048576) ∧ ∃ m, w' = w.drewN m := by
  have H : Hid (ES w ao n es) := h
  clear h
  by_cases h1 : n ≤ 131072
  rotate_left
  · go_enter Trym.func11, Trym.ntmps11
    go_wp2
    go_ret
    exact ⟨⟨_, rfl, fun e => by cases e⟩, 0, rfl⟩
  · go_enter Trym.func11, Trym.ntmps11
    go_wp2
    go_loopw [5, 6] (fun z i wr => ∃ (k m : Nat) (s : Int), k ≤ n ∧ 0 ≤ s ∧ s ≤ 1048576 ∧ i = .int .i64 k ∧ z = .int .i64 s ∧ Hid (∀ (i : Nat) e, i < k → es[i]? = some e → e.bs.length ≤ 1048576) ∧ wr = w.drewN m) (fun _ i _ => n - (intOf i).toNat)
    case atStart => exact ⟨0, 0, S, Nat.zero_le _, hS, hS', rfl, rfl, fun i e hi => absurd hi (Nat.not_lt_zero i), rfl⟩
    case round =>
      obtain ⟨k, m, s, hk, hs0, hs, rfl, rfl, HA, rfl⟩ := hrel
      by_cases hlt : k < n
      · obtain ⟨e, b, off, va, vn, vc, he, hao, e0, e1, e2, hv⟩ := H.out.at k hlt
        have HV : Hid (vn = e.bs.length) := hv.1
        have HE : Hid (es[k]? = some e) := he
        clear he hv
        obtain ⟨ks, HKS⟩ : ∃ ks : Nat, Hid (ks = e.k.size) := ⟨_, rfl⟩
        subst hao
        have hlt' : (k : Int) < (n : Int) := by omega
        by_cases t1 : e.k.size ≤ 1048576
        rotate_left
        · go_wp2
          all_goals (go_ret; exact ⟨⟨_, rfl, fun e => by cases e⟩, _, rfl⟩)
        by_cases t2 : vn ≤ 1048576
        rotate_left
        · go_wp2
          all_goals (go_ret; exact ⟨⟨_, rfl, fun e => by cases e⟩, _, rfl⟩)
        go_wp2
        go_quiet (fail)
        go_wp2
        all_goals first
          | (go_ret; exact ⟨⟨_, rfl, fun e => by cases e⟩, _, rfl⟩)
          | (go_roundw; case rel =>
               refine ⟨k + 1, _, _, by omega, ?_, ?_, by go_num, rfl, fun i e' hi he' => ?_, rfl⟩
               · omega
               · omega
               · by_cases ei : i = k
                 · subst ei; rw [HE.out] at he'; cases he'; rw [← HV.out]; exact t2
                 · exact HA.out i e' (by omega) he'
             case measure => simp [intOf]; omega)
      · go_wp2
        go_ret
        refine ⟨⟨_, rfl, fun _ => ⟨h1, fun i e he => HA.out i e ?_ he⟩⟩, _, rfl⟩
        have := (List.getElem?_eq_some_iff.1 he).1
        have := H.out.1
        omega
end Go.Proofs.Qxb6617096aMods
