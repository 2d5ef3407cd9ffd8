/-
  THE WALKS of entryIs and holdsSame.
-/
import Derived.Test.Qxb6617096aModsWk6
import Derived.LaidEqlPtr
import Derived.Lib.Builder
namespace Go.Proofs.Qxb6617096aMods
open Go.RowKit

/-- A pointer is not unlike itself. -/
theorem neq_self (x : Option Addr) (w : World) : (binOp .neq 26 (.pointer x) (.pointer x)).run Trym.prog w = .ok (.bool false) w := by
  cases x with
  | none => exact (run_neq_pointer_nil w 26 none (by kernel_rfl)).trans rfl
  | some a =>
    have h : ∃ j, Trym.prog.info? 62 = some j := Option.isSome_iff_exists.1 (by kernel_rfl)
    obtain ⟨j, hj⟩ := h
    exact Lib.run_neq_ptr_same w a Trym.underlying26 hj

set_option maxHeartbeats 400000 in
/-- entryIs, at the entry that is there. -/
theorem entryIs_any (b i : Nat) (gen em nm : Int) (es : List Ent) (ks : List (Option Addr)) (e : Ent) (va : Option Addr) (vn vc : Nat) (w : World) (hN : NodeAt w b gen em nm es ks) (he : es[i]? = some e) (hv : ISl .u8 w va vn e.nl e.bs) (hi : i ≤ 131072) (hvn : vn ≤ 1048576) :
    Calls Trym.prog 23 #[.pointer (some ⟨b, 0, none⟩), .int .i64 i, .int .u64 e.h, .string e.k, .slice va vn vc] w fun r w' => r = .returned (.bool true) ∧ ∃ m, w' = w.drewN m := by
  obtain ⟨_, _, _, ⟨ae, ne, ce, c3, hE⟩, _⟩ := hN
  have hin : i < ne := by rw [hE.1]; exact (List.getElem?_eq_some_iff.1 he).1
  obtain ⟨e', g, off, va', vn', vc', he', hao, e0, e1, e2, hv'⟩ := hE.at i hin
  rw [he] at he'
  cases he'
  have hvv : vn' = vn := by rw [hv.1, hv'.1]
  subst hvv
  subst hao
  obtain ⟨hx, HX⟩ : ∃ hx, Hid (hx = e.h) := ⟨_, rfl⟩
  obtain ⟨sx, HSX⟩ : ∃ sx, Hid (sx = e.k) := ⟨_, rfl⟩
  rw [← HX.out] at e0 ⊢
  rw [← HSX.out] at e1 ⊢
  have HV : Hid (ISl .u8 w va vn' e.nl e.bs) := hv
  have HV' : Hid (ISl .u8 w va' vn' e.nl e.bs) := hv'
  clear hE he hv hv'
  go_enter Trym.func23, Trym.ntmps23
  go_wp2_with (first
    | (go_at_call 19; refine (ecount_any b _ _ ne ce c3).mono ?_; rintro r w' ⟨rfl, hw⟩; rw [hw]; clear hw)
    | (go_at_call 26; refine (ehash_any b _ g off ne ce i hx c3 hin e0).mono ?_; rintro r w' ⟨rfl, hw⟩; rw [hw]; clear hw)
    | (go_at_call 34; refine (ekey_any b _ g off ne ce i sx c3 hin e1).mono ?_; rintro r w' ⟨rfl, hw⟩; rw [hw]; clear hw)
    | (go_at_call 36; refine (eval_any b _ g off ne ce i va' vn' vc' c3 hin e2).mono ?_; rintro r w' ⟨rfl, hw⟩; rw [hw]; clear hw)
    | (go_at_call 35; refine (sameBytes_any va' va vn' vc' vc e.nl e.bs _ HV'.out HV.out hvn).mono ?_; rintro r w' ⟨rfl, m, hw⟩; rw [hw]; clear hw))
  go_ret
  exact ⟨rfl, _, rfl⟩

set_option maxHeartbeats 400000 in
/-- holdsSame, none: a node that holds nothing. -/
theorem holds_none (b : Nat) (gen em nm : Int) (ao ak : Option Addr) (n c nk ck : Nat) (w : World) (hN : NodeAt w b gen 0 0 [] []) :
    Calls Trym.prog 17 #[.pointer (some ⟨b, 0, none⟩), .bool true, .int .u64 em, .int .u64 nm, .slice ao n c, .slice ak nk ck] w fun r w' => r = .returned (.bool true) ∧ ∃ m, w' = w.drewN m := by
  obtain ⟨_, c1, c2, ⟨ae, ne, ce, c3, hE⟩, ⟨ap, np, cp, c4, hP⟩, _⟩ := hN
  have h1 : ne = 0 := hE.1
  have h2 : np = 0 := hP.1
  subst h1
  subst h2
  clear hE hP
  go_enter Trym.func17, Trym.ntmps17
  go_wp2_with (first
    | (go_at_call 21; refine (emap_any b _ 0 c1).mono ?_; rintro r w' ⟨rfl, hw⟩; rw [hw]; clear hw)
    | (go_at_call 22; refine (nmap_any b _ 0 c2).mono ?_; rintro r w' ⟨rfl, hw⟩; rw [hw]; clear hw)
    | (go_at_call 19; refine (ecount_any b _ _ 0 ce c3).mono ?_; rintro r w' ⟨rfl, hw⟩; rw [hw]; clear hw)
    | (go_at_call 20; refine (ccount_any b _ _ 0 cp c4).mono ?_; rintro r w' ⟨rfl, hw⟩; rw [hw]; clear hw))
  go_ret
  exact ⟨rfl, 0, rfl⟩

set_option maxHeartbeats 1000000 in
/-- holdsSame, a node that holds just these. -/
theorem holds_some (b : Nat) (gen em nm : Int) (es : List Ent) (ks : List (Option Addr)) (ao ak : Option Addr) (n c nk ck : Nat) (w : World) (hN : NodeAt w b gen em nm es ks) (hE : ES w ao n es) (hK : PS w ak nk ks) (hn : n ≤ 131072) (hnk : nk ≤ 131072)
    (hes : Hid (∀ (i : Nat) e, es[i]? = some e → e.bs.length ≤ 1048576)) :
    Calls Trym.prog 17 #[.pointer (some ⟨b, 0, none⟩), .bool false, .int .u64 em, .int .u64 nm, .slice ao n c, .slice ak nk ck] w fun r w' => r = .returned (.bool true) ∧ ∃ m, w' = w.drewN m := by
  have HN : Hid (NodeAt w b gen em nm es ks) := hN
  have HE : Hid (ES w ao n es) := hE
  have HK : Hid (PS w ak nk ks) := hK
  obtain ⟨_, c1, c2, ⟨ae, ne, ce, c3, hE'⟩, ⟨ap, np, cp, c4, hP'⟩, _⟩ := hN
  have h1 : ne = n := by rw [hE'.1, hE.1]
  have h2 : np = nk := by rw [hP'.1, hK.1]
  subst h1
  subst h2
  have HP : Hid (PS w ap np ks) := hP'
  clear hE' hP' hE hK
  go_enter Trym.func17, Trym.ntmps17
  go_wp2_with (first
    | (go_at_call 21; refine (emap_any b _ em c1).mono ?_; rintro r w' ⟨rfl, hw⟩; rw [hw]; clear hw)
    | (go_at_call 22; refine (nmap_any b _ nm c2).mono ?_; rintro r w' ⟨rfl, hw⟩; rw [hw]; clear hw)
    | (go_at_call 19; refine (ecount_any b _ _ ne ce c3).mono ?_; rintro r w' ⟨rfl, hw⟩; rw [hw]; clear hw)
    | (go_at_call 20; refine (ccount_any b _ _ np cp c4).mono ?_; rintro r w' ⟨rfl, hw⟩; rw [hw]; clear hw))
  go_loopw [13] (fun i wr => ∃ k : Nat, k ≤ ne ∧ i = .int .i64 k ∧ Hid (∃ m, wr = w.drewN m)) (fun i _ => ne - (intOf i).toNat)
  case atStart => exact ⟨0, Nat.zero_le _, rfl, 0, rfl⟩
  case round =>
    obtain ⟨k, hk, rfl, HM⟩ := hrel
    by_cases hlt : k < ne
    · have hbel : Below w.heap.size w wr := by obtain ⟨m, hm⟩ := HM.out; rw [hm]; exact bel_drewN _ _
      obtain ⟨e, g, off, va, vn, vc, he, hao, e0, e1, e2, hv⟩ := (HE.out.below hbel).at k hlt
      have hvn : vn ≤ 1048576 := by rw [hv.1]; exact hes.out k e he
      have HX : Hid (es[k]? = some e) := he
      have HV : Hid (ISl .u8 wr va vn e.nl e.bs) := hv
      have HNr : Hid (NodeAt wr b gen em nm es ks) := HN.out.below hbel
      subst hao
      clear he hv hbel c1 c2 c3 c4
      have hlt' : (k : Int) < (ne : Int) := by omega
      go_wp2_with fail
      go_quiet ((go_at_call 23; refine Calls.quiet_of (entryIs_any b k gen em nm es ks e va vn vc _ ?_ HX.out ?_ (by omega) hvn); exact HNr.out; exact HV.out))
      have HM' : Hid (∃ m, wr.drewN nq = w.drewN m) := by obtain ⟨m, hm⟩ := HM.out; rw [hm]; exact ⟨_, World.drewN_drewN _ _ _⟩
      go_wp2_with fail
      go_roundw
      case rel => exact ⟨k + 1, by omega, by go_num, HM'⟩
      case measure => simp [intOf]; omega
    · go_wp2_with fail
      go_loopw [14] (fun i wr => ∃ k : Nat, k ≤ np ∧ i = .int .i64 k ∧ Hid (∃ m, wr = w.drewN m)) (fun i _ => np - (intOf i).toNat)
      case atStart => exact ⟨0, Nat.zero_le _, rfl, HM⟩
      case round =>
        obtain ⟨k, hk, rfl, HM⟩ := hrel
        by_cases hlt : k < np
        · have hbel : Below w.heap.size w wr := by obtain ⟨m, hm⟩ := HM.out; rw [hm]; exact bel_drewN _ _
          have d4 := old_cell hbel c4
          obtain ⟨x, g1, o1, g2, o2, hap, hak, x1, x2⟩ : ∃ x g1 o1 g2 o2, ap = some ⟨g1, o1, none⟩ ∧ ak = some ⟨g2, o2, none⟩ ∧ wr.cell? ⟨g1, o1 + k, none⟩ = some (.pointer x) ∧ wr.cell? ⟨g2, o2 + k, none⟩ = some (.pointer x) := by
            have hkl : k < ks.length := by have := HP.out.1; omega
            rcases HP.out.2 with h | ⟨g1, o1, e1, h1⟩
            · simp at h; subst h; simp at hkl
            · rcases HK.out.2 with h | ⟨g2, o2, e2, h2⟩
              · simp at h; subst h; simp at hkl
              · exact ⟨ks[k], g1, o1, g2, o2, e1, e2, old_cell hbel (h1 k _ (by simp [hkl])), old_cell hbel (h2 k _ (by simp [hkl]))⟩
          subst hap
          subst hak
          clear hbel c1 c2 c3 c4
          have hlt' : (k : Int) < (np : Int) := by omega
          have hself := neq_self x
          go_wp2_with fail
          go_quiet ((go_at_call 28; refine Calls.quiet_of_same (child_any b _ g1 o1 np cp k x ?_ hlt ?_); exact d4; exact x1))
          have HM' : Hid (∃ m, wr.drewN nq = w.drewN m) := by obtain ⟨m, hm⟩ := HM.out; rw [hm]; exact ⟨_, World.drewN_drewN _ _ _⟩
          go_wp2_with fail
          go_roundw
          case rel => exact ⟨k + 1, by omega, by go_num, HM'⟩
          case measure => simp [intOf]; omega
        · go_wp2_with fail
          go_ret
          exact ⟨rfl, HM.out⟩
end Go.Proofs.Qxb6617096aMods
