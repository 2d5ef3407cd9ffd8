/-
  THE WALK of FnTakeRateFullBucketAdmitsItsShareAtOnce, within its own bounds.
-/
import Derived.Test.Qxb6608746aModsWkUse
import Derived.Test.Qxb6608746aModsPlainF
namespace Go.Proofs.Qxb6608746aMods
open Go.RowKit

set_option maxRecDepth 20000 in
set_option maxHeartbeats 2000000 in
theorem full_in (l wn F Q r N now : Int) (d : Bool) (w : World) (r0 : 0 ≤ r) (r1 : r ≤ 4294967295) (hQ : 0 ≤ Q) (hQ' : Q ≤ 4294967295) (R P : Int) (HR : Hid (R = r / 2)) (HP : Hid (PerIs r P))
    (H : Fits R P N) (c4 : 0 ≤ now) (c5 : now ≤ 4611686018427387904) (c6 : 0 ≤ F) (c7 : F ≤ 4611686018427387904) (c8 : R ≤ 4611686018427387904 / P) :
    Calls Trym.prog 3 #[.int .i64 l, .int .i64 wn, .int .i64 F, .int .u32 Q, .bool d, .int .u32 r, .int .i64 N, .int .i64 now] w fun e w' => e = .returned (.bool true) ∧ Grown w w' := by
  have c1 := H.R1
  have hR' := H.R2
  have c2 := H.N1
  have c3 := H.N2
  have p0 := H.P1
  have p1 := H.P2
  go_enter Trym.func3, Trym.ntmps3
  go_upto_region 1 with fail
  go_cut [17] from 43 to 45 (fun s w' => s = .int .i64 R ∧ w = w')
  case first =>
    go_wp2_with fail
    go_meet
    case rel => exact ⟨by rw [HR.out], rfl⟩
  case rest =>
  obtain ⟨rfl, rfl⟩ := hcut
  go_upto_if 72 with fail
  go_cut [18] from 43 to 72 (fun s w' => s = .int .i64 P ∧ w = w')
  case first =>
    rcases HP.out with ⟨hb, e⟩ | ⟨hb, e⟩
    all_goals
      go_wp2_with fail
      go_meet
      case rel => exact ⟨by rw [e], rfl⟩
  case rest =>
  obtain ⟨rfl, rfl⟩ := hcut
  obtain ⟨k, HK⟩ : ∃ k : Nat, Hid ((k : Int) = share R N) := ⟨(share R N).toNat, by have := share_one R N; show (_ : Int) = _; omega⟩
  have k1 : 1 ≤ k := by have := share_one R N; have := HK.out; omega
  have d0 : 0 ≤ R / N := Int.ediv_nonneg (by omega) (by omega)
  have d1 : R / N ≤ 2147483647 := Int.le_trans (Int.ediv_le_self _ (by omega)) hR'
  have k2 : (k : Int) ≤ 2147483647 := by rw [HK.out]; unfold share; split <;> omega
  go_upto_if 82 with fail
  go_cut [20] from 73 to 82 (fun s w' => s = .int .i64 k ∧ w = w')
  case first =>
    by_cases hm : R / N < 1
    · go_wp2_with fail
      go_meet
      case rel => exact ⟨by rw [HK.out]; unfold share; rw [if_pos hm], rfl⟩
    · go_wp2_with fail
      go_meet
      case rel => exact ⟨by rw [HK.out]; unfold share; rw [if_neg (by omega)], rfl⟩
  case rest =>
  obtain ⟨rfl, rfl⟩ := hcut
  clear d0 d1
  by_cases c9 : k ≤ 65536
  rotate_left
  · go_wp2_with fail
    all_goals (go_ret; exact ⟨rfl, Grown.refl _⟩)
  obtain ⟨f, HF⟩ : ∃ f, Hid (f = F + Q / R) := ⟨_, rfl⟩
  obtain ⟨q, HQ⟩ : ∃ q, Hid (q = Q % R) := ⟨_, rfl⟩
  have a1 : 0 ≤ Q / R := Int.ediv_nonneg hQ (by omega)
  have a2 : Q / R ≤ 4294967295 := Int.le_trans (Int.ediv_le_self _ hQ) hQ'
  go_upto_region 17 with fail
  go_cut [21] from 83 to 90 (fun s w' => s = .int .i64 f ∧ w = w')
  case first =>
    go_wp2_with fail
    go_meet
    case rel => exact ⟨by rw [HF.out], rfl⟩
  case rest =>
  obtain ⟨rfl, rfl⟩ := hcut
  have f0 : 0 ≤ f := by rw [HF.out]; omega
  have f1 : f ≤ 4611686022722355199 := by rw [HF.out]; omega
  go_upto_region 18 with fail
  go_cut [22] from 91 to 94 (fun s w' => s = .int .i64 q ∧ w = w')
  case first =>
    go_wp2_with fail
    go_meet
    case rel => exact ⟨by rw [HQ.out], rfl⟩
  case rest =>
  obtain ⟨rfl, rfl⟩ := hcut
  have q0 : 0 ≤ q := by rw [HQ.out]; exact H.rem0 Q
  have q1 : q < R := by rw [HQ.out]; exact H.rem1 Q
  clear a1 a2
  by_cases h1 : now < f
  · go_wp2_with fail
    all_goals (go_ret; exact ⟨rfl, Grown.refl _⟩)
  obtain ⟨B, HB⟩ : ∃ B : Bool, Hid (B = decide (f = now ∧ 0 < q)) := ⟨_, rfl⟩
  go_upto_region 19 with fail
  go_cut [106] from 95 to 106 (fun s w' => s = .bool B ∧ w = w')
  case first =>
    by_cases h2 : f = now
    · subst h2
      have e2 : (f == f) = true := by simp
      by_cases h3 : 0 < q
      · have eB : B = true := by rw [HB.out]; exact decide_eq_true (by omega)
        go_wp2_with fail
        go_meet
        case rel => exact ⟨by rw [eB], rfl⟩
      · have eB : B = false := by rw [HB.out]; exact decide_eq_false (by omega)
        go_wp2_with fail
        go_meet
        case rel => exact ⟨by rw [eB], rfl⟩
    · have e2 : (f == now) = false := by simpa using h2
      have eB : B = false := by rw [HB.out]; exact decide_eq_false (by omega)
      go_wp2_with fail
      go_meet
      case rel => exact ⟨by rw [eB], rfl⟩
  case rest =>
  obtain ⟨rfl, rfl⟩ := hcut
  cases B with
  | true =>
    go_wp2_with fail
    all_goals (go_ret; exact ⟨rfl, Grown.refl _⟩)
  | false =>
  have HD0 : Hid (Debt R P N f q now 0) := .inr ⟨by have := of_decide_eq_false HB.out.symm; omega, rfl⟩
  obtain ⟨T, HT⟩ : ∃ T, Hid (T = room R P N) := ⟨_, rfl⟩
  have T0 : 0 ≤ T := by rw [HT.out]; exact H.room0
  have T1 : T ≤ 4611686018427387904 := by rw [HT.out]; exact H.room1
  go_upto_if 109 with fail
  go_cut [23] from 107 to 114 (fun s w' => s = .int .i64 T ∧ w = w')
  case first =>
    by_cases hNR : N < R
    · have eT := room_pos (P := P) hNR
      rw [← HT.out] at eT
      have k0 : 0 ≤ (R - N) * P := by rw [← eT]; exact T0
      have k1 : (R - N) * P ≤ 4611686018427387904 := by rw [← eT]; exact T1
      have HTT : Hid (T = (R - N) * P) := eT
      clear eT
      go_wp2_with fail
      go_meet
      case rel => exact ⟨by rw [HTT.out], rfl⟩
    · have eT := room_zero (P := P) hNR
      rw [← HT.out] at eT
      have HTT : Hid (T = 0) := eT
      clear eT
      go_wp2_with fail
      go_meet
      case rel => exact ⟨by rw [HTT.out], rfl⟩
  case rest =>
  obtain ⟨rfl, rfl⟩ := hcut
  go_wp2_with fail
  refine (new_k l wn F Q d w w (Grown.refl _)).mono ?_
  rintro e w1 ⟨b, rfl, hk1⟩
  clear HB c8 h1 f0 f1
  have HZ : Hid (Debt R P N (F + Q / R) (Q % R) now ((0 : Nat) * N * P)) := by
    show Debt R P N (F + Q / R) (Q % R) now ((0 : Int) * N * P)
    rw [← HF.out, ← HQ.out, Int.zero_mul, Int.zero_mul]; exact HD0.out
  clear HD0
  go_wp2_with fail
  go_loopw [25] (fun j wi => ∃ i : Nat, i ≤ k ∧ j = .int .i64 ((i : Int) + 1) ∧ ∃ Fi Qi, KU w wi b l wn Fi Qi d ∧ 0 ≤ Qi ∧ Qi ≤ 4294967295 ∧ 0 ≤ Fi ∧ Fi ≤ 4675000000000000000 ∧ Hid (Debt R P N (Fi + Qi / R) (Qi % R) now (i * N * P)) ∧ (1 ≤ i → Hid (Fi = now + i * N * P / R ∧ Qi = i * N * P % R)))
    (fun j _ => (k : Int).toNat + 1 - (intOf j).toNat)
  case atStart => exact ⟨0, Nat.zero_le _, rfl, F, Q, hk1, hQ, hQ', c6, by omega, HZ, fun h => absurd h (by omega)⟩
  case round =>
    obtain ⟨i, hi, rfl, Fi, Qi, hk, u0, u1, v0, v1, HDi, HFi⟩ := hrel
    clear hk1 HZ HF HQ q0 q1
    by_cases hlt : i < k
    · have hs : (i : Int) + 1 ≤ share R N := by rw [← HK.out]; omega
      obtain ⟨D, HDD⟩ : ∃ D, Hid (D = (i : Int) * N * P) := ⟨_, rfl⟩
      rw [← HDD.out] at HDi
      have HLE : Hid (D ≤ room R P N) := by rw [HDD.out]; exact H.roomy (by omega) hs
      obtain ⟨K, HKK⟩ : ∃ K, Hid (K = ((i : Int) + 1) * N * P) := ⟨_, rfl⟩
      have eK : Hid (D + N * P = K) := by rw [HDD.out, HKK.out]; exact taken_succ _ _ _
      obtain ⟨F1, HF1⟩ : ∃ F1, Hid (F1 = now + (D + N * P) / R) := ⟨_, rfl⟩
      obtain ⟨Q1, HQ1⟩ : ∃ Q1, Hid (Q1 = (D + N * P) % R) := ⟨_, rfl⟩
      go_wp2_with fail
      refine (yes_k r R P N now l wn Fi Qi _ _ d w _ b hk HR HP r0 r1 D H u0 u1 v0 v1 c4 (by omega) rfl rfl HDi F1 Q1 HLE HF1 HQ1).mono ?_
      rintro e w2 ⟨rfl, hk2⟩
      go_wp2_with fail
      refine (fields_k l wn F1 Q1 d w _ b hk2).mono ?_
      rintro e w3 ⟨rfl, hk3⟩
      clear hk hk2 HFi
      have s0 : 0 ≤ ((i : Int) + 1) * N := Int.mul_nonneg (by omega) (by omega)
      have s1 := H.takenN hs
      have s2 := H.taken0 (i := (i : Int) + 1) (by omega)
      have s3 := H.taken1 hs
      go_upto_region 30 with fail
      go_cut [33] from 126 to 146 (fun s w' => s = .int .i64 K ∧ w3 = w')
      case first =>
        go_wp2_with fail
        go_meet
        case rel => exact ⟨by rw [HKK.out], rfl⟩
      case rest =>
      obtain ⟨rfl, rfl⟩ := hcut
      have K0 : 0 ≤ K := by rw [HKK.out]; exact s2
      have K1 : K ≤ 4611686018427387904 := by rw [HKK.out]; exact s3
      have y0 : 0 ≤ K / R := Int.ediv_nonneg K0 (by omega)
      have y1 : K / R ≤ 62914560000000000 := by rw [HKK.out]; exact Int.le_trans (H.takenTop hs) H.top1
      have g1 : 0 ≤ Q1 := by rw [HQ1.out]; exact H.rem0 _
      have g2 : Q1 < R := by rw [HQ1.out]; exact H.rem1 _
      have HE1 : Hid (F1 = now + K / R) := by rw [HF1.out, eK.out]; exact rfl
      have HE2 : Hid (Q1 = K % R) := by rw [HQ1.out, eK.out]; exact rfl
      have e3 : (F1 != now + K / R) = false := by rw [← HE1.out]; simp
      have e4 : (Q1 != K % R) = false := by rw [← HE2.out]; simp
      clear s0 s1 s2 s3
      go_wp2_with fail
      go_roundw
      case rel =>
        have HC : ((i + 1 : Nat) : Int) * N * P = K := by rw [HKK.out]; rfl
        have F10 : F1 = now + ((i + 1 : Nat) : Int) * N * P / R := by rw [HC]; exact HE1.out
        have Q10 : Q1 = ((i + 1 : Nat) : Int) * N * P % R := by rw [HC]; exact HE2.out
        have F1e := HE1.out
        refine ⟨i + 1, by omega, by go_num, F1, Q1, hk3, g1, by omega, by omega, by omega, ?_, fun _ => ⟨F10, Q10⟩⟩
        rw [Int.ediv_eq_zero_of_lt g1 g2, Int.emod_eq_of_lt g1 g2, Int.add_zero]
        exact H.debt_taken (by omega) (by rw [← HK.out]; omega) F10 Q10
      case measure => simp [intOf]; omega
    · obtain rfl : k = i := by omega
      obtain ⟨HG1, HG2⟩ := (HFi k1).out
      obtain ⟨K, HKK⟩ : ∃ K, Hid (K = (k : Int) * N * P) := ⟨_, rfl⟩
      rw [← HKK.out] at HDi HG1 HG2
      have HGT : Hid (room R P N < K) := by rw [HKK.out, HK.out]; exact H.full
      obtain ⟨W, HW⟩ : ∃ W, Hid (W = (K - room R P N + R - 1) / R) := ⟨_, rfl⟩
      obtain ⟨W0, W1, W2⟩ := H.ceil (E := K - room R P N) (by have := HGT.out; omega) HW.out
      rw [← HT.out] at W1 W2
      have hT : T < K := by rw [HT.out]; exact HGT.out
      have W3 : 0 ≤ (W - 1) * R := Int.mul_nonneg (by omega) (by omega)
      have e5 : (W - 1) * R = W * R - R := by rw [Int.sub_mul]; omega
      have K0 : 0 ≤ K := by omega
      have K1 : K ≤ 4611686018427387904 := by rw [HKK.out]; exact H.taken1 (by rw [HK.out]; exact Int.le_refl _)
      have W4 : W * R ≤ 4611686020574871551 := by omega
      have W5 : 0 ≤ W * R := by omega
      have W6 : (W - 1) * R ≤ 4611686018427387904 := by omega
      have W7 : W ≤ 62914560000000001 := by
        have h1 := H.wait_le (HDi.out.lt_top H (H.rem1 _)) HGT.out HW.out
        have h2 := H.top1
        omega
      have y0 : 0 ≤ K / R := Int.ediv_nonneg K0 (by omega)
      have y1 : K / R ≤ 62914560000000000 := by rw [HKK.out]; exact Int.le_trans (H.takenTop (by rw [HK.out]; exact Int.le_refl _)) H.top1
      have g1 : 0 ≤ Qi := u0
      have g2 : Qi < R := by rw [HG2]; exact H.rem1 _
      have e3 : (Fi == now + K / R) = true := by rw [← HG1]; simp
      have e4 : (Qi == K % R) = true := by rw [← HG2]; simp
      obtain ⟨f', q', HF', HQ', ef, eq⟩ : ∃ f' q', Hid (f' = Fi + Qi / R) ∧ Hid (q' = Qi % R) ∧ f' = Fi ∧ q' = Qi := ⟨_, _, rfl, rfl, by rw [Int.ediv_eq_zero_of_lt g1 g2, Int.add_zero], Int.emod_eq_of_lt g1 g2⟩
      rw [← HF'.out, ← HQ'.out] at HDi
      subst ef
      subst eq
      have HE5 : Hid ((W - 1) * R = W * R - R) := e5
      clear e5 HG1 HG2 HFi
      go_wp2_with fail
      refine (no_k r R P N now l wn f' q' f' q' d w _ b hk HR HP r0 r1 K H u0 u1 v0 v1 c4 (by omega) HF' HQ' HDi W HGT HW).mono ?_
      rintro e w2 ⟨rfl, hk2⟩
      go_wp2_with fail
      refine (fields_k l wn f' q' d w _ b hk2).mono ?_
      rintro e w3 ⟨rfl, hk3⟩
      clear hk hk2
      have s0 : 0 ≤ (k : Int) * N := Int.mul_nonneg (by omega) (by omega)
      have s1 := H.takenN (i := (k : Int)) (by rw [HK.out]; exact Int.le_refl _)
      have s2 := H.taken0 (i := (k : Int)) (by omega)
      have s3 := H.taken1 (i := (k : Int)) (by rw [HK.out]; exact Int.le_refl _)
      go_upto_region 37 with fail
      go_cut [41] from 183 to 203 (fun s w' => s = .int .i64 K ∧ w3 = w')
      case first =>
        go_wp2_with fail
        go_meet
        case rel => exact ⟨by rw [HKK.out], rfl⟩
      case rest =>
      obtain ⟨rfl, rfl⟩ := hcut
      clear s0 s1 s2 s3
      go_wp2_with fail
      go_ret
      exact ⟨rfl, hk3.grown⟩
end Go.Proofs.Qxb6608746aMods
