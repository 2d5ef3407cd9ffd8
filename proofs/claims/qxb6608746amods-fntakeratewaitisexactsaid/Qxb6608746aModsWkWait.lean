/-
  THE WALK of FnTakeRateWaitIsExact, within its own bounds.
-/
import Derived.Test.Qxb6608746aModsWkUse
import Derived.Test.Qxb6608746aModsPlainW
namespace Go.Proofs.Qxb6608746aMods
open Go.RowKit

set_option maxRecDepth 20000 in
set_option maxHeartbeats 2000000 in
theorem wait_in (l wr F Q r N now : Int) (d : Bool) (w : World) (r0 : 0 ≤ r) (r1 : r ≤ 4294967295) (hQ : 0 ≤ Q) (hQ' : Q ≤ 4294967295) (R P : Int) (HR : Hid (R = r / 2)) (HP : Hid (PerIs r P))
    (H : Fits R P N) (c4 : 0 ≤ now) (c5 : now ≤ 4611686018427387904) (c6 : 0 ≤ F) (c7 : F ≤ 4611686018427387904) (c8 : R ≤ 4611686018427387904 / P) :
    Calls Trym.prog 4 #[.int .i64 l, .int .i64 wr, .int .i64 F, .int .u32 Q, .bool d, .int .u32 r, .int .i64 N, .int .i64 now] w fun e w' => e = .returned (.bool true) ∧ Grown w w' := by
  have c1 := H.R1
  have hR' := H.R2
  have c2 := H.N1
  have c3 := H.N2
  have p0 := H.P1
  have p1 := H.P2
  go_enter Trym.func4, Trym.ntmps4
  go_upto_region 1 with fail
  go_cut [17] from 42 to 44 (fun s w' => s = .int .i64 R ∧ w = w')
  case first =>
    go_wp2_with fail
    go_meet
    case rel => exact ⟨by rw [HR.out], rfl⟩
  case rest =>
  obtain ⟨rfl, rfl⟩ := hcut
  go_upto_if 71 with fail
  go_cut [18] from 42 to 71 (fun s w' => s = .int .i64 P ∧ w = w')
  case first =>
    rcases HP.out with ⟨hb, e⟩ | ⟨hb, e⟩
    all_goals
      go_wp2_with fail
      go_meet
      case rel => exact ⟨by rw [e], rfl⟩
  case rest =>
  obtain ⟨rfl, rfl⟩ := hcut
  obtain ⟨f, HF⟩ : ∃ f, Hid (f = F + Q / R) := ⟨_, rfl⟩
  obtain ⟨q, HQ⟩ : ∃ q, Hid (q = Q % R) := ⟨_, rfl⟩
  have a1 : 0 ≤ Q / R := Int.ediv_nonneg hQ (by omega)
  have a2 : Q / R ≤ 4294967295 := Int.le_trans (Int.ediv_le_self _ hQ) hQ'
  go_upto_region 12 with fail
  go_cut [20] from 72 to 82 (fun s w' => s = .int .i64 f ∧ w = w')
  case first =>
    go_wp2_with fail
    go_meet
    case rel => exact ⟨by rw [HF.out], rfl⟩
  case rest =>
  obtain ⟨rfl, rfl⟩ := hcut
  have f0 : 0 ≤ f := by rw [HF.out]; omega
  have f1 : f ≤ 4611686022722355199 := by rw [HF.out]; omega
  go_upto_region 13 with fail
  go_cut [21] from 83 to 86 (fun s w' => s = .int .i64 q ∧ w = w')
  case first =>
    go_wp2_with fail
    go_meet
    case rel => exact ⟨by rw [HQ.out], rfl⟩
  case rest =>
  obtain ⟨rfl, rfl⟩ := hcut
  have q0 : 0 ≤ q := by rw [HQ.out]; exact H.rem0 Q
  have q1 : q < R := by rw [HQ.out]; exact H.rem1 Q
  clear a1 a2
  have z0 := H.NP0
  have z1 := H.NP1
  have t0 := H.NPR0
  have t1 := H.NPR1
  obtain ⟨M, HM⟩ : ∃ M, Hid (M = top R P N) := ⟨_, rfl⟩
  go_upto_if 94 with fail
  go_cut [22] from 87 to 99 (fun s w' => s = .int .i64 M ∧ w = w')
  case first =>
    by_cases hm : P < N * P / R
    · go_wp2_with fail
      go_meet
      case rel => exact ⟨by rw [HM.out, ← H.most, if_pos hm], rfl⟩
    · go_wp2_with fail
      go_meet
      case rel => exact ⟨by rw [HM.out, ← H.most, if_neg (by omega)], rfl⟩
  case rest =>
  obtain ⟨rfl, rfl⟩ := hcut
  have m0 : 0 ≤ M := by rw [HM.out]; exact H.top0
  have m1 : M ≤ 62914560000000000 := by rw [HM.out]; exact H.top1
  by_cases c9 : f - now ≤ M
  rotate_left
  · go_wp2_with fail
    all_goals (go_ret; exact ⟨rfl, Grown.refl _⟩)
  obtain ⟨B, HB⟩ : ∃ B : Bool, Hid (B = decide (now < f ∨ (f = now ∧ 0 < q))) := ⟨_, rfl⟩
  go_upto_region 20 with fail
  go_cut [117] from 100 to 117 (fun s w' => s = .bool B ∧ w = w')
  case first =>
    by_cases h1 : now < f
    · have eB : B = true := by rw [HB.out]; exact decide_eq_true (by omega)
      go_wp2_with fail
      go_meet
      case rel => exact ⟨by rw [eB], rfl⟩
    · by_cases h2 : f = now
      · subst h2
        have e2 : (f == f) = true := by simp
        by_cases h3 : 0 < q
        · have eB : B = true := by rw [HB.out]; exact decide_eq_true (by omega)
          go_wp2_with fail
          go_meet
          case rel => exact ⟨by rw [eB], rfl⟩
        · have eB : B = false := by rw [HB.out]; exact decide_eq_false (by omega)
          go_wp2_with fail
          go_meet
          case rel => exact ⟨by rw [eB], rfl⟩
      · have e2 : (f == now) = false := by simpa using h2
        have eB : B = false := by rw [HB.out]; exact decide_eq_false (by omega)
        go_wp2_with fail
        go_meet
        case rel => exact ⟨by rw [eB], rfl⟩
  case rest =>
  obtain ⟨rfl, rfl⟩ := hcut
  obtain ⟨bw, bf, HBF⟩ : ∃ bw bf, Hid ((B = true ∧ bw = f ∧ bf = q) ∨ (B = false ∧ bw = now ∧ bf = 0)) := by
    cases B
    · exact ⟨now, 0, .inr ⟨rfl, rfl, rfl⟩⟩
    · exact ⟨f, q, .inl ⟨rfl, rfl, rfl⟩⟩
  go_upto_if 117 with fail
  go_cut [23, 24] from 118 to 119 (fun s t w' => s = .int .i64 bw ∧ t = .int .i64 bf ∧ w = w')
  case first =>
    rcases HBF.out with ⟨eB, e1, e2⟩ | ⟨eB, e1, e2⟩
    · subst eB
      go_wp2_with fail
      go_meet
      case rel => exact ⟨by rw [e1], by rw [e2], rfl⟩
    · subst eB
      go_wp2_with fail
      go_meet
      case rel => exact ⟨by rw [e1], by rw [e2], rfl⟩
  case rest =>
  obtain ⟨rfl, rfl, rfl⟩ := hcut
  obtain ⟨D, HE⟩ : ∃ D, Hid (D = (bw - now) * R + bf) := ⟨_, rfl⟩
  have HD : Hid (Debt R P N f q now D) := by
    rcases HBF.out with ⟨eB, e1, e2⟩ | ⟨eB, e1, e2⟩
    · refine .inl ⟨of_decide_eq_true (by rw [← HB.out]; exact eB), by rw [← HM.out]; exact c9, by rw [HE.out, e1, e2]⟩
    · refine .inr ⟨of_decide_eq_false (by rw [← HB.out]; exact eB), by rw [HE.out, e1, e2]; simp⟩
  have b0 : now ≤ bw ∧ bw - now ≤ M ∧ 0 ≤ bf ∧ bf < R := by
    rcases HBF.out with ⟨eB, e1, e2⟩ | ⟨eB, e1, e2⟩
    · have := of_decide_eq_true (by rw [← HB.out]; exact eB : decide (now < f ∨ (f = now ∧ 0 < q)) = true); omega
    · omega
  obtain ⟨b0, b1, b2, b3⟩ := b0
  have x0 := H.owed0 (x := bw - now) (by omega)
  have x1 := H.owed1 (x := bw - now) (by rw [← HM.out]; exact b1)
  go_upto_region 23 with fail
  go_cut [25] from 120 to 126 (fun s w' => s = .int .i64 D ∧ w = w')
  case first =>
    go_wp2_with fail
    go_meet
    case rel => exact ⟨by rw [HE.out], rfl⟩
  case rest =>
  obtain ⟨rfl, rfl⟩ := hcut
  have D0 := HD.out.nonneg H q0
  have D1 := HD.out.le H q1
  clear x0 x1
  obtain ⟨T, HT⟩ : ∃ T, Hid (T = room R P N) := ⟨_, rfl⟩
  have T0 : 0 ≤ T := by rw [HT.out]; exact H.room0
  have T1 : T ≤ 4611686018427387904 := by rw [HT.out]; exact H.room1
  go_upto_if 129 with fail
  go_cut [26] from 127 to 134 (fun s w' => s = .int .i64 T ∧ w = w')
  case first =>
    by_cases hNR : N < R
    · have eT := room_pos (P := P) hNR
      rw [← HT.out] at eT
      have k0 : 0 ≤ (R - N) * P := by rw [← eT]; exact T0
      have k1 : (R - N) * P ≤ 4611686018427387904 := by rw [← eT]; exact T1
      have HTT : Hid (T = (R - N) * P) := eT
      clear eT
      go_wp2_with fail
      go_meet
      case rel => exact ⟨by rw [HTT.out], rfl⟩
    · have eT := room_zero (P := P) hNR
      rw [← HT.out] at eT
      have HTT : Hid (T = 0) := eT
      clear eT
      go_wp2_with fail
      go_meet
      case rel => exact ⟨by rw [HTT.out], rfl⟩
  case rest =>
  obtain ⟨rfl, rfl⟩ := hcut
  have bw1 : bw ≤ 4674600578427387904 := by omega
  clear m0 m1 t0 t1 HB
  go_wp2_with fail
  refine (new_k l wr F Q d w w (Grown.refl _)).mono ?_
  rintro e w1 ⟨b, rfl, hk1⟩
  go_wp2_with fail
  by_cases hle : D ≤ T
  · obtain ⟨F1, HF1⟩ : ∃ F1, Hid (F1 = now + (D + N * P) / R) := ⟨_, rfl⟩
    obtain ⟨Q1, HQ1⟩ : ∃ Q1, Hid (Q1 = (D + N * P) % R) := ⟨_, rfl⟩
    refine (yes_k r R P N now l wr F Q f q d w _ b hk1 HR HP r0 r1 D H hQ hQ' c6 (by omega) c4 (by omega) HF HQ HD F1 Q1 (by rw [HT.out] at hle; exact hle) HF1 HQ1).mono ?_
    rintro e w2 ⟨rfl, hk2⟩
    go_wp2_with fail
    refine (fields_k l wr F1 Q1 d w _ b hk2).mono ?_
    rintro e w3 ⟨rfl, hk3⟩
    clear hk1 hk2
    obtain ⟨A, HA⟩ : ∃ A, Hid (A = bf + N * P) := ⟨_, rfl⟩
    go_upto_region 33 with fail
    go_cut [35] from 173 to 177 (fun s w' => s = .int .i64 A ∧ w3 = w')
    case first =>
      go_wp2_with fail
      go_meet
      case rel => exact ⟨by rw [HA.out], rfl⟩
    case rest =>
    obtain ⟨rfl, rfl⟩ := hcut
    have A0 : 0 ≤ A := by rw [HA.out]; omega
    have A1 : A ≤ 62914562147483647 := by rw [HA.out]; omega
    have y0 : 0 ≤ A / R := Int.ediv_nonneg A0 (by omega)
    have y1 : A / R ≤ 62914562147483647 := Int.le_trans (Int.ediv_le_self _ A0) A1
    have e1 : bw + A / R = F1 := by
      rw [HF1.out, HE.out, HA.out, Int.add_assoc, H.mul_div]; omega
    have e2 : A % R = Q1 := by
      rw [HQ1.out, HE.out, HA.out, Int.add_assoc, H.mul_mod]
    have g1 : 0 ≤ Q1 := by rw [← e2]; exact H.rem0 A
    have g2 : Q1 < R := by rw [← e2]; exact H.rem1 A
    have e3 : (F1 == bw + A / R) = true := by rw [e1]; simp
    have e4 : (Q1 == A % R) = true := by rw [e2]; simp
    clear e1 e2
    go_wp2_with fail
    go_ret
    exact ⟨rfl, hk3.grown⟩
  · have hgt : T < D := by omega
    obtain ⟨W, HW⟩ : ∃ W, Hid (W = (D - room R P N + R - 1) / R) := ⟨_, rfl⟩
    have hgt' : Hid (room R P N < D) := by rw [HT.out] at hgt; exact hgt
    have W1 : 1 ≤ W := (H.ceil (E := D - room R P N) (by have := hgt'.out; omega) HW.out).1
    have W2 : W ≤ 62914560000000001 := by
      have h1 := H.wait_le (HD.out.lt_top H q1) hgt'.out HW.out
      have h2 := H.top1
      omega
    obtain ⟨Db, HDb⟩ : ∃ Db, Hid (Db = D - (W - 1) * R) := ⟨_, rfl⟩
    have HB1 := HD.out.before H q1 hgt'.out HW.out
    rw [← HDb.out] at HB1
    obtain ⟨k1, k2, k3⟩ := HB1
    have K1 : Hid (Debt R P N f q (now + W - 1) Db) := k1
    have K2 : Hid (room R P N < Db) := k2
    have K3 : Hid (1 = (Db - room R P N + R - 1) / R) := k3.symm
    obtain ⟨Da, k4, k5⟩ := HD.out.after H hgt'.out HW.out
    have K4 : Hid (Debt R P N f q (now + W) Da) := k4
    have K5 : Hid (Da ≤ room R P N) := k5
    clear k1 k2 k3 k4 k5
    refine (no_k r R P N now l wr F Q f q d w _ b hk1 HR HP r0 r1 D H hQ hQ' c6 (by omega) c4 (by omega) HF HQ HD W hgt' HW).mono ?_
    rintro e w2 ⟨rfl, hk2⟩
    go_wp2_with fail
    refine (fields_k l wr f q d w _ b hk2).mono ?_
    rintro e w3 ⟨rfl, hk3⟩
    clear hk1 hk2
    go_wp2_with fail
    refine (new_k l wr F Q d w _ hk3.grown).mono ?_
    rintro e w4 ⟨b4, rfl, hk4⟩
    go_wp2_with fail
    refine (no_k r R P N (now + W - 1) l wr F Q f q d w _ b4 hk4 HR HP r0 r1 Db H hQ hQ' c6 (by omega) (by omega) (by omega) HF HQ K1 1 K2 K3).mono ?_
    rintro e w5 ⟨rfl, hk5⟩
    clear hk3 hk4
    go_wp2_with fail
    refine (new_k l wr F Q d w _ hk5.grown).mono ?_
    rintro e w6 ⟨b6, rfl, hk6⟩
    go_wp2_with fail
    refine (yes_k r R P N (now + W) l wr F Q f q d w _ b6 hk6 HR HP r0 r1 Da H hQ hQ' c6 (by omega) (by omega) (by omega) HF HQ K4 _ _ K5 rfl rfl).mono ?_
    rintro e w7 ⟨rfl, hk7⟩
    clear hk5 hk6
    go_wp2_with fail
    go_ret
    exact ⟨rfl, hk7.grown⟩
end Go.Proofs.Qxb6608746aMods
