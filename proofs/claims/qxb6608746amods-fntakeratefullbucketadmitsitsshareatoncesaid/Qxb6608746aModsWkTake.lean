/-
  THE WALK of (*keyUse).takeRate: cut in four: the part of a nanosecond brought below R; does it owe; the debt; the answer.
-/
import Derived.Test.Qxb6608746aModsWk
import Derived.Test.Qxb6608746aModsPlain
import Derived.Deep.CutRange
namespace Go.Proofs.Qxb6608746aMods
open Go.RowKit

theorem set23 (w : World) (a b c d e x y : Value) (m : Nat) : ((((w.alloc (.cells #[a, b, c, d, e] 32)).drewN m).setCell ⟨w.heap.size, 2, none⟩ x).setCell ⟨w.heap.size, 3, none⟩ y) = (w.alloc (.cells #[a, b, x, y, e] 32)).drewN m := by
  have h1 : (((w.alloc (.cells #[a, b, c, d, e] 32)).setCell ⟨w.heap.size, 2, none⟩ x).setCell ⟨w.heap.size, 3, none⟩ y) = w.alloc (.cells #[a, b, x, y, e] 32) := by
    simp [go_sem]
  exact congrArg (fun v => World.drewN v m) h1
set_option maxRecDepth 20000 in
set_option maxHeartbeats 1000000 in
theorem take_any (r R P N now l wr F Q f q : Int) (d : Bool) (w : World) (n : Nat) (HR : Hid (R = r / 2)) (HP : Hid (PerIs r P)) (r0 : 0 ≤ r) (r1 : r ≤ 4294967295) (D : Int)
    (H : Fits R P N) (hQ : 0 ≤ Q) (hQ' : Q ≤ 4294967295) (hF : 0 ≤ F) (hF' : F ≤ 4675000000000000000) (hn : 0 ≤ now) (hn' : now ≤ 4675000000000000000)
    (HF : Hid (f = F + Q / R)) (HQ : Hid (q = Q % R)) (HD : Hid (Debt R P N f q now D)) :
    Calls Trym.prog 8 #[.pointer (some ⟨w.heap.size, 0, none⟩), .int .u32 r, .int .i64 N, .int .i64 now] ((w.alloc (.cells #[.int .i64 l, .int .i64 wr, .int .i64 F, .int .u32 Q, .bool d] 32)).drewN n) fun e w' =>
      (D ≤ room R P N ∧ e = .returned (.tuple #[.int .i64 0, .bool true]) ∧ ∃ m, w' = (w.alloc (.cells #[.int .i64 l, .int .i64 wr, .int .i64 (now + (D + N * P) / R), .int .u32 ((D + N * P) % R), .bool d] 32)).drewN m) ∨
      (room R P N < D ∧ e = .returned (.tuple #[.int .i64 ((D - room R P N + R - 1) / R), .bool false]) ∧ ∃ m, w' = (w.alloc (.cells #[.int .i64 l, .int .i64 wr, .int .i64 f, .int .u32 q, .bool d] 32)).drewN m) := by
  have hR := H.R1
  have hR' := H.R2
  go_enter Trym.func8, Trym.ntmps8
  go_upto_if 30 with (first
    | (go_at_call 9; refine (adm_v r R HR _ r0 r1).mono ?_; rintro e w' ⟨rfl, rfl⟩)
    | (go_at_call 10; refine (per_v r P HP.out _).mono ?_; rintro e w' ⟨rfl, rfl⟩))
  go_cut [14] from 17 to 48 (fun s w' => ∃ m, w' = (w.alloc (.cells #[.int .i64 l, .int .i64 wr, .int .i64 f, .int .u32 q, .bool d] 32)).drewN m)
  case first =>
    by_cases hQR : R ≤ Q
    · have a1 : 0 ≤ Q / R := Int.ediv_nonneg hQ (by omega)
      have a2 : Q / R ≤ 4294967295 := Int.le_trans (Int.ediv_le_self _ hQ) hQ'
      have a3 := H.rem0 Q
      have a4 : Q % R ≤ 4294967295 := by have := H.rem1 Q; omega
      go_wp2_with fail
      go_region
      all_goals (go_wp2_with fail; go_meet; case rel => exact ⟨_, by rw [set23, HF.out, HQ.out]⟩)
    · go_wp2_with fail
      go_meet
      case rel => exact ⟨n, by rw [HF.out, HQ.out, Int.ediv_eq_zero_of_lt hQ (by omega), Int.emod_eq_of_lt hQ (by omega), Int.add_zero]⟩
  case rest =>
    obtain ⟨m, rfl⟩ := hcut
    have f0 : 0 ≤ f := by rw [HF.out]; have : 0 ≤ Q / R := Int.ediv_nonneg hQ (by omega); omega
    have f1 : f ≤ 4675000004294967295 := by rw [HF.out]; have : Q / R ≤ 4294967295 := Int.le_trans (Int.ediv_le_self _ hQ) hQ'; omega
    have q0 : 0 ≤ q := by rw [HQ.out]; exact H.rem0 Q
    have q1 : q < R := by rw [HQ.out]; exact H.rem1 Q
    have D0 := HD.out.nonneg H q0
    have D1 := HD.out.le H q1
    obtain ⟨B, HB⟩ : ∃ B : Bool, Hid (B = decide (now < f ∨ (f = now ∧ 0 < q))) := ⟨_, rfl⟩
    go_upto_region 6 with fail
    go_cut [69] from 49 to 69 (fun s w' => s = .bool B ∧ ∃ m, w' = (w.alloc (.cells #[.int .i64 l, .int .i64 wr, .int .i64 f, .int .u32 q, .bool d] 32)).drewN m)
    case first =>
      by_cases h1 : now < f
      · have eB : B = true := by rw [HB.out]; exact decide_eq_true (by omega)
        go_wp2_with fail
        go_meet
        case rel => exact ⟨by rw [eB], _, rfl⟩
      · by_cases h2 : f = now
        · subst h2
          have e2 : (f == f) = true := by simp
          by_cases h3 : 0 < q
          · have eB : B = true := by rw [HB.out]; exact decide_eq_true (by omega)
            go_wp2_with fail
            go_meet
            case rel => exact ⟨by rw [eB], _, rfl⟩
          · have eB : B = false := by rw [HB.out]; exact decide_eq_false (by omega)
            go_wp2_with fail
            go_meet
            case rel => exact ⟨by rw [eB], _, rfl⟩
        · have e2 : (f == now) = false := by simpa using h2
          have eB : B = false := by rw [HB.out]; exact decide_eq_false (by omega)
          go_wp2_with fail
          go_meet
          case rel => exact ⟨by rw [eB], _, rfl⟩
    case rest =>
      obtain ⟨rfl, m, rfl⟩ := hcut
      go_upto_if 69 with fail
      go_cut [15] from 70 to 92 (fun s w' => s = .int .i64 D ∧ ∃ m, w' = (w.alloc (.cells #[.int .i64 l, .int .i64 wr, .int .i64 f, .int .u32 q, .bool d] 32)).drewN m)
      case first =>
        cases B with
        | false =>
          have eD : D = 0 := by
            rcases HD.out with ⟨h, _, _⟩ | ⟨_, h⟩
            · have := HB.out; rw [decide_eq_true h] at this; cases this
            · exact h
          go_wp2_with fail
          go_meet
          case rel => exact ⟨by rw [eD], _, rfl⟩
        | true =>
          obtain ⟨hown, htop, HE⟩ : (now < f ∨ (f = now ∧ 0 < q)) ∧ f - now ≤ top R P N ∧ Hid (D = (f - now) * R + q) := by
            rcases HD.out with h | ⟨h, _⟩
            · exact h
            · have := HB.out; rw [decide_eq_false h] at this; cases this
          have x0 := H.owed0 (x := f - now) (by omega)
          have x1 := H.owed1 (x := f - now) htop
          have hle : now ≤ f := by omega
          have p0 := H.P1
          have p1 := H.P2
          have n0 := H.N1
          have n1 := H.N2
          have y0 := H.RP0
          have y1 := H.RP
          have z0 := H.NP0
          have z1 := H.NP1
          have t0 := H.NPR0
          have t1 := H.NPR1
          have yR := H.RPR
          clear hown
          by_cases hNR : R < N
          · have ht : f - now ≤ N * P / R := by unfold top at htop; rwa [if_pos hNR] at htop
            clear htop
            go_wp2_with fail
            go_quiet (fail)
            go_wp2_with fail
            go_meet
            case rel => exact ⟨by rw [HE.out], m + nq, drewN_drewN _ _ _⟩
          · have ht : f - now ≤ P := by unfold top at htop; rwa [if_neg hNR] at htop
            clear htop
            go_wp2_with fail
            go_quiet (fail)
            go_wp2_with fail
            go_meet
            case rel => exact ⟨by rw [HE.out], m + nq, drewN_drewN _ _ _⟩
      case rest =>
        obtain ⟨rfl, m, rfl⟩ := hcut
        have p0 := H.P1
        have p1 := H.P2
        have n0 := H.N1
        have n1 := H.N2
        have z0 := H.NP0
        have z1 := H.NP1
        have o0 := H.room0
        have o1 := H.room1
        clear HD HB
        by_cases hle : D ≤ room R P N
        · have v0 := H.next0 D0
          have v1 := H.next1 hle
          have v2 := H.rem0 (D + N * P)
          have v3 := H.rem1 (D + N * P)
          by_cases hNR : N < R
          · have eT := room_pos (P := P) hNR
            have k1 : (R - N) * P ≤ 4611686018427387904 := by rw [← eT]; exact o1
            have k0 : 0 ≤ (R - N) * P := by rw [← eT]; exact o0
            have hle' : D ≤ (R - N) * P := by rw [← eT]; exact hle
            have HG : Hid (D ≤ room R P N) := hle
            clear o0 o1 eT hle
            go_wp2_with fail
            go_region
            all_goals (go_wp2_with fail; go_ret2; exact .inl ⟨HG.out, rfl, _, set23 _ _ _ _ _ _ _ _ _⟩)
          · have eT := room_zero (P := P) hNR
            have hle' : D ≤ 0 := by rw [← eT]; exact hle
            have HG : Hid (D ≤ room R P N) := hle
            clear o0 o1 eT hle
            have w0 : wrap64 0 = 0 := by unfold wrap64; omega
            rcases (show R < N ∨ (R ≤ N ∧ N ≤ R) from by omega) with hlt | ⟨e1, e2⟩
            · go_wp2_with fail
              go_region
              all_goals (go_wp2_with fail; go_ret2; exact .inl ⟨HG.out, rfl, _, set23 _ _ _ _ _ _ _ _ _⟩)
            · have hz : (R - N) * P = 0 := by rw [show R - N = 0 from by omega]; exact Int.zero_mul P
              go_wp2_with fail
              go_region
              all_goals (go_wp2_with fail; go_ret2; exact .inl ⟨HG.out, rfl, _, set23 _ _ _ _ _ _ _ _ _⟩)
        · have hgt : room R P N < D := by omega
          by_cases hNR : N < R
          · have eT := room_pos (P := P) hNR
            have k1 : (R - N) * P ≤ 4611686018427387904 := by rw [← eT]; exact o1
            have k0 : 0 ≤ (R - N) * P := by rw [← eT]; exact o0
            have hle' : (R - N) * P < D := by rw [← eT]; exact hgt
            have HT : Hid (room R P N = (R - N) * P) := eT
            have HG : Hid (room R P N < D) := hgt
            clear o0 o1 eT hle hgt
            go_wp2_with fail
            go_ret2
            refine .inr ⟨HG.out, ?_, _, rfl⟩
            rw [HT.out]
            rfl
          · have eT := room_zero (P := P) hNR
            have hle' : 0 < D := by rw [← eT]; exact hgt
            have HT : Hid (room R P N = 0) := eT
            have HG : Hid (room R P N < D) := hgt
            clear o0 o1 eT hle hgt
            have w0 : wrap64 0 = 0 := by unfold wrap64; omega
            rcases (show R < N ∨ (R ≤ N ∧ N ≤ R) from by omega) with hlt | ⟨e1, e2⟩
            · go_wp2_with fail
              go_ret2
              refine .inr ⟨HG.out, ?_, _, rfl⟩
              rw [HT.out, Int.sub_zero]
              rfl
            · have hz : (R - N) * P = 0 := by rw [show R - N = 0 from by omega]; exact Int.zero_mul P
              go_wp2_with fail
              go_ret2
              refine .inr ⟨HG.out, ?_, _, rfl⟩
              rw [HT.out, Int.sub_zero]
              rfl
end Go.Proofs.Qxb6608746aMods
