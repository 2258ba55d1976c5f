/- slices' siftDownCmpFunc and heapSortCmpFunc of items by keys do what the plain ones do. Conditions: the range lies in the row. -/
import Derived.Test.YtaifmeajfldckaaCmp
import Derived.Test.YtaifmeajfldckaaHeap
namespace Go.Proofs.Ytaifmeajfldckaa
open Go.RowKit Go.Sort Go.Proofs

section
variable {blk n c1 : Nat}

set_option maxHeartbeats 8000000 in
set_option maxRecDepth 100000 in
theorem tsift_any (d : Array (Int × Int)) (w : World) (h : Tn blk d w w) (hs : d.size = n) (hn : n ≤ 4096) (lo hi F : Nat) (hlo : lo ≤ n) (hb : F + hi ≤ n) :
    Calls Try.prog 98 #[.slice (some ⟨blk, 0, none⟩) n c1, .int .i64 lo, .int .i64 hi, .int .i64 F, .func (.func 82) #[] #[]] w fun e w' => e = .returned (.tuple #[]) ∧ Tn blk (siftDown ltK hi F lo d) w w' := by
  have ek := byKey_enters
  have H := aside h
  have HS := aside hs
  clear h hs
  go_enter Try.func98, Try.ntmps98
  go_wp2_with fail
  go_loopw [10] (fun vi wr => ∃ (r : Nat) (dk : Array (Int × Int)), vi = .int .i64 r ∧ r ≤ n ∧ Aside (dk.size = n) ∧ Aside (Tn blk dk w wr) ∧ Aside (siftDown ltK hi F r dk = siftDown ltK hi F lo d)) (fun vi _ => hi - (intOf vi).toNat)
  case atStart => exact ⟨lo, d, rfl, hlo, HS, H, rfl⟩
  case round =>
    obtain ⟨r, dk, rfl, hr, hsk, hT, hO⟩ := hrel
    by_cases c0 : hi ≤ 2 * r + 1
    · go_wp2_with fail
      go_returns
      exact ⟨rfl, by rw [← hO.out, sift_end _ _ _ _ c0]; exact hT.out⟩
    · by_cases c1 : 2 * r + 2 < hi
      · have c1' : 2 * (r : Int) + 1 + 1 < (hi : Int) := by omega
        cases l1 : ltK dk[F + (2 * r + 1)]! dk[F + (2 * r + 2)]! with
        | true =>
          have L1 := aside l1
          clear l1
          obtain ⟨x1, x1', y1, y1', ca1, cb1, cc1, cd1, hc1⟩ := cmpT hT.out hsk.out (F + (2 * r + 1)) (F + (2 * r + 2)) (by omega) (by omega) L1.out
          have g1_0a : ((F : Int) + (2 * (r : Int) + 1)).toNat = F + (2 * r + 1) := by omega
          have g1_0b : (0 : Int) ≤ (F : Int) + (2 * (r : Int) + 1) := by omega
          have g1_0c : (F : Int) + (2 * (r : Int) + 1) < (n : Int) := by omega
          have g1_0d : IntKind.i64.wrap ((F : Int) + (2 * (r : Int) + 1)) = (F : Int) + (2 * (r : Int) + 1) := by rw [IntKind.wrap_i64]; omega
          have g1_1a : ((F : Int) + (2 * (r : Int) + 1) + 1).toNat = F + (2 * r + 2) := by omega
          have g1_1b : (0 : Int) ≤ (F : Int) + (2 * (r : Int) + 1) + 1 := by omega
          have g1_1c : (F : Int) + (2 * (r : Int) + 1) + 1 < (n : Int) := by omega
          have g1_1d : IntKind.i64.wrap ((F : Int) + (2 * (r : Int) + 1) + 1) = (F : Int) + (2 * (r : Int) + 1) + 1 := by rw [IntKind.wrap_i64]; omega
          have g1_2d : IntKind.i64.wrap (2 * (r : Int) + 1 + 1) = 2 * (r : Int) + 1 + 1 := by rw [IntKind.wrap_i64]; omega
          go_wp2_with fail
          go_still_tail 19, (by kernel_rfl)
          change wpList _ _ _ _ _ wr.drew
          have TD1 := hT.out.drewN 1
          change Tn _ _ _ wr.drew at TD1
          generalize wr.drew = wd1 at TD1 ⊢
          clear ca1 cb1 cc1 cd1 g1_0a g1_0b g1_0c g1_0d g1_1a g1_1b g1_1c g1_1d g1_2d
          go_wp2_with fail
          refine (hc1.out wd1).mono ?_
          rintro e _ ⟨z1, rfl, hz1, o1, o1', rfl⟩
          have T1 := aside ((TD1.alloc o1).alloc o1')
          generalize (wd1.alloc o1).alloc o1' = w1 at T1 ⊢
          clear TD1 hc1 o1 o1'
          have hd1 : decide (z1 < 0) = true := decide_eq_true (by omega)
          go_wp2_with fail
          cases l2 : ltK dk[F + r]! dk[F + (2 * r + 2)]! with
          | true =>
            have L2 := aside l2
            clear l2
            obtain ⟨x2, x2', y2, y2', ca2, cb2, cc2, cd2, hc2⟩ := cmpT T1.out hsk.out (F + r) (F + (2 * r + 2)) (by omega) (by omega) L2.out
            have g2_0a : ((F : Int) + (r : Int)).toNat = F + r := by omega
            have g2_0b : (0 : Int) ≤ (F : Int) + (r : Int) := by omega
            have g2_0c : (F : Int) + (r : Int) < (n : Int) := by omega
            have g2_0d : IntKind.i64.wrap ((F : Int) + (r : Int)) = (F : Int) + (r : Int) := by rw [IntKind.wrap_i64]; omega
            have g2_1a : ((F : Int) + (2 * (r : Int) + 1 + 1)).toNat = F + (2 * r + 2) := by omega
            have g2_1b : (0 : Int) ≤ (F : Int) + (2 * (r : Int) + 1 + 1) := by omega
            have g2_1c : (F : Int) + (2 * (r : Int) + 1 + 1) < (n : Int) := by omega
            have g2_1d : IntKind.i64.wrap ((F : Int) + (2 * (r : Int) + 1 + 1)) = (F : Int) + (2 * (r : Int) + 1 + 1) := by rw [IntKind.wrap_i64]; omega
            go_wp2_with fail
            go_still_tail 13, (by kernel_rfl)
            change wpList _ _ _ _ _ w1.drew
            have TD2 := T1.out.drewN 1
            change Tn _ _ _ w1.drew at TD2
            generalize w1.drew = wd2 at TD2 ⊢
            clear ca2 cb2 cc2 cd2 g2_0a g2_0b g2_0c g2_0d g2_1a g2_1b g2_1c g2_1d
            go_wp2_with fail
            refine (hc2.out wd2).mono ?_
            rintro e _ ⟨z2, rfl, hz2, o2, o2', rfl⟩
            have T2 := aside ((TD2.alloc o2).alloc o2')
            generalize (wd2.alloc o2).alloc o2' = w2 at T2 ⊢
            clear TD2 hc2 o2 o2'
            have hd2 : decide (z2 < 0) = true := decide_eq_true (by omega)
            go_wp2_with fail
            obtain ⟨X3, X3', Y3, Y3', -, -, a3, a3', b3, b3', p3, p3', q3, q3', ⟨u3, e3⟩, ⟨v3, e3'⟩, ⟨t3, e3''⟩, S3⟩ := exch T2.out (F + r) (F + (2 * r + 2)) (by rw [hsk.out]; omega) (by rw [hsk.out]; omega)
            have T3 := aside (S3 1)
            clear S3
            have g3_0a : ((F : Int) + (r : Int)).toNat = F + r := by omega
            have g3_0b : (0 : Int) ≤ (F : Int) + (r : Int) := by omega
            have g3_0c : (F : Int) + (r : Int) < (n : Int) := by omega
            have g3_0d : IntKind.i64.wrap ((F : Int) + (r : Int)) = (F : Int) + (r : Int) := by rw [IntKind.wrap_i64]; omega
            have g3_1a : ((F : Int) + (2 * (r : Int) + 1 + 1)).toNat = F + (2 * r + 2) := by omega
            have g3_1b : (0 : Int) ≤ (F : Int) + (2 * (r : Int) + 1 + 1) := by omega
            have g3_1c : (F : Int) + (2 * (r : Int) + 1 + 1) < (n : Int) := by omega
            have g3_1d : IntKind.i64.wrap ((F : Int) + (2 * (r : Int) + 1 + 1)) = (F : Int) + (2 * (r : Int) + 1 + 1) := by rw [IntKind.wrap_i64]; omega
            go_wp2_with fail
            go_region
            clear e3 e3' e3'' a3 a3' b3 b3' p3 p3' q3 q3' g3_0a g3_0b g3_0c g3_0d g3_1a g3_1b g3_1c g3_1d
            go_wp2_with fail
            go_roundw
            case rel => exact ⟨2 * r + 2, _, by first | rfl | (congr 1; omega), by omega, (size_swp _ _ _).trans hsk.out, T3, by rw [← hO.out, sift_r_go _ _ _ _ c1 L1.out L2.out]; exact rfl⟩
            case measure => simp [intOf]; omega
          | false =>
            have L2 := aside l2
            clear l2
            obtain ⟨x4, x4', y4, y4', ca4, cb4, cc4, cd4, hc4⟩ := cmpF T1.out hsk.out (F + r) (F + (2 * r + 2)) (by omega) (by omega) L2.out
            have g4_0a : ((F : Int) + (r : Int)).toNat = F + r := by omega
            have g4_0b : (0 : Int) ≤ (F : Int) + (r : Int) := by omega
            have g4_0c : (F : Int) + (r : Int) < (n : Int) := by omega
            have g4_0d : IntKind.i64.wrap ((F : Int) + (r : Int)) = (F : Int) + (r : Int) := by rw [IntKind.wrap_i64]; omega
            have g4_1a : ((F : Int) + (2 * (r : Int) + 1 + 1)).toNat = F + (2 * r + 2) := by omega
            have g4_1b : (0 : Int) ≤ (F : Int) + (2 * (r : Int) + 1 + 1) := by omega
            have g4_1c : (F : Int) + (2 * (r : Int) + 1 + 1) < (n : Int) := by omega
            have g4_1d : IntKind.i64.wrap ((F : Int) + (2 * (r : Int) + 1 + 1)) = (F : Int) + (2 * (r : Int) + 1 + 1) := by rw [IntKind.wrap_i64]; omega
            go_wp2_with fail
            go_still_tail 13, (by kernel_rfl)
            change wpList _ _ _ _ _ w1.drew
            have TD4 := T1.out.drewN 1
            change Tn _ _ _ w1.drew at TD4
            generalize w1.drew = wd4 at TD4 ⊢
            clear ca4 cb4 cc4 cd4 g4_0a g4_0b g4_0c g4_0d g4_1a g4_1b g4_1c g4_1d
            go_wp2_with fail
            refine (hc4.out wd4).mono ?_
            rintro e _ ⟨z4, rfl, hz4, o4, o4', rfl⟩
            have T2 := aside ((TD4.alloc o4).alloc o4')
            generalize (wd4.alloc o4).alloc o4' = w2 at T2 ⊢
            clear TD4 hc4 o4 o4'
            have hd4 : decide (z4 < 0) = false := decide_eq_false (by omega)
            go_wp2_with fail
            go_returns
            exact ⟨rfl, by rw [← hO.out, sift_r_stop _ _ _ _ c1 L1.out L2.out]; exact T2.out⟩
        | false =>
          have L1 := aside l1
          clear l1
          obtain ⟨x5, x5', y5, y5', ca5, cb5, cc5, cd5, hc5⟩ := cmpF hT.out hsk.out (F + (2 * r + 1)) (F + (2 * r + 2)) (by omega) (by omega) L1.out
          have g5_0a : ((F : Int) + (2 * (r : Int) + 1)).toNat = F + (2 * r + 1) := by omega
          have g5_0b : (0 : Int) ≤ (F : Int) + (2 * (r : Int) + 1) := by omega
          have g5_0c : (F : Int) + (2 * (r : Int) + 1) < (n : Int) := by omega
          have g5_0d : IntKind.i64.wrap ((F : Int) + (2 * (r : Int) + 1)) = (F : Int) + (2 * (r : Int) + 1) := by rw [IntKind.wrap_i64]; omega
          have g5_1a : ((F : Int) + (2 * (r : Int) + 1) + 1).toNat = F + (2 * r + 2) := by omega
          have g5_1b : (0 : Int) ≤ (F : Int) + (2 * (r : Int) + 1) + 1 := by omega
          have g5_1c : (F : Int) + (2 * (r : Int) + 1) + 1 < (n : Int) := by omega
          have g5_1d : IntKind.i64.wrap ((F : Int) + (2 * (r : Int) + 1) + 1) = (F : Int) + (2 * (r : Int) + 1) + 1 := by rw [IntKind.wrap_i64]; omega
          have g5_2d : IntKind.i64.wrap (2 * (r : Int) + 1 + 1) = 2 * (r : Int) + 1 + 1 := by rw [IntKind.wrap_i64]; omega
          go_wp2_with fail
          go_still_tail 19, (by kernel_rfl)
          change wpList _ _ _ _ _ wr.drew
          have TD5 := hT.out.drewN 1
          change Tn _ _ _ wr.drew at TD5
          generalize wr.drew = wd5 at TD5 ⊢
          clear ca5 cb5 cc5 cd5 g5_0a g5_0b g5_0c g5_0d g5_1a g5_1b g5_1c g5_1d g5_2d
          go_wp2_with fail
          refine (hc5.out wd5).mono ?_
          rintro e _ ⟨z5, rfl, hz5, o5, o5', rfl⟩
          have T1 := aside ((TD5.alloc o5).alloc o5')
          generalize (wd5.alloc o5).alloc o5' = w1 at T1 ⊢
          clear TD5 hc5 o5 o5'
          have hd5 : decide (z5 < 0) = false := decide_eq_false (by omega)
          go_wp2_with fail
          cases l2 : ltK dk[F + r]! dk[F + (2 * r + 1)]! with
          | true =>
            have L2 := aside l2
            clear l2
            obtain ⟨x6, x6', y6, y6', ca6, cb6, cc6, cd6, hc6⟩ := cmpT T1.out hsk.out (F + r) (F + (2 * r + 1)) (by omega) (by omega) L2.out
            have g6_0a : ((F : Int) + (r : Int)).toNat = F + r := by omega
            have g6_0b : (0 : Int) ≤ (F : Int) + (r : Int) := by omega
            have g6_0c : (F : Int) + (r : Int) < (n : Int) := by omega
            have g6_0d : IntKind.i64.wrap ((F : Int) + (r : Int)) = (F : Int) + (r : Int) := by rw [IntKind.wrap_i64]; omega
            have g6_1a : ((F : Int) + (2 * (r : Int) + 1)).toNat = F + (2 * r + 1) := by omega
            have g6_1b : (0 : Int) ≤ (F : Int) + (2 * (r : Int) + 1) := by omega
            have g6_1c : (F : Int) + (2 * (r : Int) + 1) < (n : Int) := by omega
            have g6_1d : IntKind.i64.wrap ((F : Int) + (2 * (r : Int) + 1)) = (F : Int) + (2 * (r : Int) + 1) := by rw [IntKind.wrap_i64]; omega
            go_wp2_with fail
            go_still_tail 13, (by kernel_rfl)
            change wpList _ _ _ _ _ w1.drew
            have TD6 := T1.out.drewN 1
            change Tn _ _ _ w1.drew at TD6
            generalize w1.drew = wd6 at TD6 ⊢
            clear ca6 cb6 cc6 cd6 g6_0a g6_0b g6_0c g6_0d g6_1a g6_1b g6_1c g6_1d
            go_wp2_with fail
            refine (hc6.out wd6).mono ?_
            rintro e _ ⟨z6, rfl, hz6, o6, o6', rfl⟩
            have T2 := aside ((TD6.alloc o6).alloc o6')
            generalize (wd6.alloc o6).alloc o6' = w2 at T2 ⊢
            clear TD6 hc6 o6 o6'
            have hd6 : decide (z6 < 0) = true := decide_eq_true (by omega)
            go_wp2_with fail
            obtain ⟨X7, X7', Y7, Y7', -, -, a7, a7', b7, b7', p7, p7', q7, q7', ⟨u7, e7⟩, ⟨v7, e7'⟩, ⟨t7, e7''⟩, S7⟩ := exch T2.out (F + r) (F + (2 * r + 1)) (by rw [hsk.out]; omega) (by rw [hsk.out]; omega)
            have T3 := aside (S7 1)
            clear S7
            have g7_0a : ((F : Int) + (r : Int)).toNat = F + r := by omega
            have g7_0b : (0 : Int) ≤ (F : Int) + (r : Int) := by omega
            have g7_0c : (F : Int) + (r : Int) < (n : Int) := by omega
            have g7_0d : IntKind.i64.wrap ((F : Int) + (r : Int)) = (F : Int) + (r : Int) := by rw [IntKind.wrap_i64]; omega
            have g7_1a : ((F : Int) + (2 * (r : Int) + 1)).toNat = F + (2 * r + 1) := by omega
            have g7_1b : (0 : Int) ≤ (F : Int) + (2 * (r : Int) + 1) := by omega
            have g7_1c : (F : Int) + (2 * (r : Int) + 1) < (n : Int) := by omega
            have g7_1d : IntKind.i64.wrap ((F : Int) + (2 * (r : Int) + 1)) = (F : Int) + (2 * (r : Int) + 1) := by rw [IntKind.wrap_i64]; omega
            go_wp2_with fail
            go_region
            clear e7 e7' e7'' a7 a7' b7 b7' p7 p7' q7 q7' g7_0a g7_0b g7_0c g7_0d g7_1a g7_1b g7_1c g7_1d
            go_wp2_with fail
            go_roundw
            case rel => exact ⟨2 * r + 1, _, by first | rfl | (congr 1; omega), by omega, (size_swp _ _ _).trans hsk.out, T3, by rw [← hO.out, sift_l_go _ _ _ _ (by omega) (.inr L1.out) L2.out]; exact rfl⟩
            case measure => simp [intOf]; omega
          | false =>
            have L2 := aside l2
            clear l2
            obtain ⟨x8, x8', y8, y8', ca8, cb8, cc8, cd8, hc8⟩ := cmpF T1.out hsk.out (F + r) (F + (2 * r + 1)) (by omega) (by omega) L2.out
            have g8_0a : ((F : Int) + (r : Int)).toNat = F + r := by omega
            have g8_0b : (0 : Int) ≤ (F : Int) + (r : Int) := by omega
            have g8_0c : (F : Int) + (r : Int) < (n : Int) := by omega
            have g8_0d : IntKind.i64.wrap ((F : Int) + (r : Int)) = (F : Int) + (r : Int) := by rw [IntKind.wrap_i64]; omega
            have g8_1a : ((F : Int) + (2 * (r : Int) + 1)).toNat = F + (2 * r + 1) := by omega
            have g8_1b : (0 : Int) ≤ (F : Int) + (2 * (r : Int) + 1) := by omega
            have g8_1c : (F : Int) + (2 * (r : Int) + 1) < (n : Int) := by omega
            have g8_1d : IntKind.i64.wrap ((F : Int) + (2 * (r : Int) + 1)) = (F : Int) + (2 * (r : Int) + 1) := by rw [IntKind.wrap_i64]; omega
            go_wp2_with fail
            go_still_tail 13, (by kernel_rfl)
            change wpList _ _ _ _ _ w1.drew
            have TD8 := T1.out.drewN 1
            change Tn _ _ _ w1.drew at TD8
            generalize w1.drew = wd8 at TD8 ⊢
            clear ca8 cb8 cc8 cd8 g8_0a g8_0b g8_0c g8_0d g8_1a g8_1b g8_1c g8_1d
            go_wp2_with fail
            refine (hc8.out wd8).mono ?_
            rintro e _ ⟨z8, rfl, hz8, o8, o8', rfl⟩
            have T2 := aside ((TD8.alloc o8).alloc o8')
            generalize (wd8.alloc o8).alloc o8' = w2 at T2 ⊢
            clear TD8 hc8 o8 o8'
            have hd8 : decide (z8 < 0) = false := decide_eq_false (by omega)
            go_wp2_with fail
            go_returns
            exact ⟨rfl, by rw [← hO.out, sift_l_stop _ _ _ _ (by omega) (.inr L1.out) L2.out]; exact T2.out⟩
      · have c1' : decide (2 * (r : Int) + 1 + 1 < (hi : Int)) = false := decide_eq_false (by omega)
        go_wp2_with fail
        go_quiet (fail)
        have T0 := aside (hT.out.drewN nq)
        generalize wr.drewN nq = w1 at T0 ⊢
        cases l2 : ltK dk[F + r]! dk[F + (2 * r + 1)]! with
        | true =>
          have L2 := aside l2
          clear l2
          obtain ⟨x9, x9', y9, y9', ca9, cb9, cc9, cd9, hc9⟩ := cmpT T0.out hsk.out (F + r) (F + (2 * r + 1)) (by omega) (by omega) L2.out
          have g9_0a : ((F : Int) + (r : Int)).toNat = F + r := by omega
          have g9_0b : (0 : Int) ≤ (F : Int) + (r : Int) := by omega
          have g9_0c : (F : Int) + (r : Int) < (n : Int) := by omega
          have g9_0d : IntKind.i64.wrap ((F : Int) + (r : Int)) = (F : Int) + (r : Int) := by rw [IntKind.wrap_i64]; omega
          have g9_1a : ((F : Int) + (2 * (r : Int) + 1)).toNat = F + (2 * r + 1) := by omega
          have g9_1b : (0 : Int) ≤ (F : Int) + (2 * (r : Int) + 1) := by omega
          have g9_1c : (F : Int) + (2 * (r : Int) + 1) < (n : Int) := by omega
          have g9_1d : IntKind.i64.wrap ((F : Int) + (2 * (r : Int) + 1)) = (F : Int) + (2 * (r : Int) + 1) := by rw [IntKind.wrap_i64]; omega
          go_wp2_with fail
          go_still_tail 13, (by kernel_rfl)
          change wpList _ _ _ _ _ w1.drew
          have TD9 := T0.out.drewN 1
          change Tn _ _ _ w1.drew at TD9
          generalize w1.drew = wd9 at TD9 ⊢
          clear ca9 cb9 cc9 cd9 g9_0a g9_0b g9_0c g9_0d g9_1a g9_1b g9_1c g9_1d
          go_wp2_with fail
          refine (hc9.out wd9).mono ?_
          rintro e _ ⟨z9, rfl, hz9, o9, o9', rfl⟩
          have T2 := aside ((TD9.alloc o9).alloc o9')
          generalize (wd9.alloc o9).alloc o9' = w2 at T2 ⊢
          clear TD9 hc9 o9 o9'
          have hd9 : decide (z9 < 0) = true := decide_eq_true (by omega)
          go_wp2_with fail
          obtain ⟨X10, X10', Y10, Y10', -, -, a10, a10', b10, b10', p10, p10', q10, q10', ⟨u10, e10⟩, ⟨v10, e10'⟩, ⟨t10, e10''⟩, S10⟩ := exch T2.out (F + r) (F + (2 * r + 1)) (by rw [hsk.out]; omega) (by rw [hsk.out]; omega)
          have T3 := aside (S10 1)
          clear S10
          have g10_0a : ((F : Int) + (r : Int)).toNat = F + r := by omega
          have g10_0b : (0 : Int) ≤ (F : Int) + (r : Int) := by omega
          have g10_0c : (F : Int) + (r : Int) < (n : Int) := by omega
          have g10_0d : IntKind.i64.wrap ((F : Int) + (r : Int)) = (F : Int) + (r : Int) := by rw [IntKind.wrap_i64]; omega
          have g10_1a : ((F : Int) + (2 * (r : Int) + 1)).toNat = F + (2 * r + 1) := by omega
          have g10_1b : (0 : Int) ≤ (F : Int) + (2 * (r : Int) + 1) := by omega
          have g10_1c : (F : Int) + (2 * (r : Int) + 1) < (n : Int) := by omega
          have g10_1d : IntKind.i64.wrap ((F : Int) + (2 * (r : Int) + 1)) = (F : Int) + (2 * (r : Int) + 1) := by rw [IntKind.wrap_i64]; omega
          go_wp2_with fail
          go_region
          clear e10 e10' e10'' a10 a10' b10 b10' p10 p10' q10 q10' g10_0a g10_0b g10_0c g10_0d g10_1a g10_1b g10_1c g10_1d
          go_wp2_with fail
          go_roundw
          case rel => exact ⟨2 * r + 1, _, by first | rfl | (congr 1; omega), by omega, (size_swp _ _ _).trans hsk.out, T3, by rw [← hO.out, sift_l_go _ _ _ _ (by omega) (.inl c1) L2.out]; exact rfl⟩
          case measure => simp [intOf]; omega
        | false =>
          have L2 := aside l2
          clear l2
          obtain ⟨x11, x11', y11, y11', ca11, cb11, cc11, cd11, hc11⟩ := cmpF T0.out hsk.out (F + r) (F + (2 * r + 1)) (by omega) (by omega) L2.out
          have g11_0a : ((F : Int) + (r : Int)).toNat = F + r := by omega
          have g11_0b : (0 : Int) ≤ (F : Int) + (r : Int) := by omega
          have g11_0c : (F : Int) + (r : Int) < (n : Int) := by omega
          have g11_0d : IntKind.i64.wrap ((F : Int) + (r : Int)) = (F : Int) + (r : Int) := by rw [IntKind.wrap_i64]; omega
          have g11_1a : ((F : Int) + (2 * (r : Int) + 1)).toNat = F + (2 * r + 1) := by omega
          have g11_1b : (0 : Int) ≤ (F : Int) + (2 * (r : Int) + 1) := by omega
          have g11_1c : (F : Int) + (2 * (r : Int) + 1) < (n : Int) := by omega
          have g11_1d : IntKind.i64.wrap ((F : Int) + (2 * (r : Int) + 1)) = (F : Int) + (2 * (r : Int) + 1) := by rw [IntKind.wrap_i64]; omega
          go_wp2_with fail
          go_still_tail 13, (by kernel_rfl)
          change wpList _ _ _ _ _ w1.drew
          have TD11 := T0.out.drewN 1
          change Tn _ _ _ w1.drew at TD11
          generalize w1.drew = wd11 at TD11 ⊢
          clear ca11 cb11 cc11 cd11 g11_0a g11_0b g11_0c g11_0d g11_1a g11_1b g11_1c g11_1d
          go_wp2_with fail
          refine (hc11.out wd11).mono ?_
          rintro e _ ⟨z11, rfl, hz11, o11, o11', rfl⟩
          have T2 := aside ((TD11.alloc o11).alloc o11')
          generalize (wd11.alloc o11).alloc o11' = w2 at T2 ⊢
          clear TD11 hc11 o11 o11'
          have hd11 : decide (z11 < 0) = false := decide_eq_false (by omega)
          go_wp2_with fail
          go_returns
          exact ⟨rfl, by rw [← hO.out, sift_l_stop _ _ _ _ (by omega) (.inl c1) L2.out]; exact T2.out⟩
theorem tsift_at {w0 w : World} {d : Array (Int × Int)} (h : Tn blk d w0 w) (hs : d.size = n) (hn : n ≤ 4096) (lo hi F : Nat) (hlo : lo ≤ n) (hb : F + hi ≤ n) {A B K : Int} (eA : A = lo) (eB : B = hi) (eK : K = F) :
    Calls Try.prog 98 #[.slice (some ⟨blk, 0, none⟩) n c1, .int .i64 A, .int .i64 B, .int .i64 K, .func (.func 82) #[] #[]] w (TPost blk (siftDown ltK hi F lo d) w0 w (.tuple #[])) := by
  subst eA eB eK
  exact tpost (tsift_any d w h.self hs hn lo hi F hlo hb) h (siftDown_size _ _ _ _ _ (Nat.le_refl _))

set_option maxHeartbeats 8000000 in
set_option maxRecDepth 100000 in
theorem theap_any (d : Array (Int × Int)) (w : World) (h : Tn blk d w w) (hs : d.size = n) (hn : n ≤ 4096) (a b : Nat) (hab : a ≤ b) (hb : b ≤ n) :
    Calls Try.prog 86 #[.slice (some ⟨blk, 0, none⟩) n c1, .int .i64 a, .int .i64 b, .func (.func 82) #[] #[]] w fun e w' => e = .returned (.tuple #[]) ∧ Tn blk (heapSort ltK d a b) w w' := by
  have H := aside h
  have HS := aside hs
  clear h hs
  go_enter Try.func86, Try.ntmps86
  go_wp2_with fail
  go_loopg [11] ((b - a - 1) / 2 + 1) (fun k s9 wr => s9 = .int .i64 ((k : Int) - 1) ∧ k ≤ (b - a - 1) / 2 + 1 ∧ ∃ (dk : Array (Int × Int)), Aside (dk.size = n) ∧ Aside (Tn blk dk w wr) ∧ Aside (heapBuild ltK (b - a) a k dk = heapBuild ltK (b - a) a ((b - a - 1) / 2 + 1) d))
  case atStart => exact ⟨by rw [halfStart hab], Nat.le_refl _, d, HS, H, rfl⟩
  case round =>
    obtain ⟨rfl, hkk, dk, hsk, hT, hO⟩ := hrel
    cases gk with
    | zero =>
      go_wp2_with fail
      go_loopg [12] (b - a) (fun k s10 wr2 => s10 = .int .i64 ((k : Int) - 1) ∧ k ≤ b - a ∧ ∃ (dj : Array (Int × Int)), Aside (dj.size = n) ∧ Aside (Tn blk dj w wr2) ∧ Aside (heapPop ltK a k dj = heapPop ltK a (b - a) dk))
      case atStart => exact ⟨by congr 1; omega, Nat.le_refl _, dk, hsk, hT, rfl⟩
      case round =>
        obtain ⟨rfl, hkk2, dj, hsj, hTj, hP⟩ := hrel
        cases gk with
        | zero =>
          go_wp2_with fail
          go_end0
          exact ⟨rfl, by rw [heapSort, ← hO.out, show heapBuild ltK (b - a) a 0 dk = dk from rfl, ← hP.out]; exact hTj.out⟩
        | succ k =>
          have ek1 : ((k + 1 : Nat) : Int) - 1 = (k : Int) := by omega
          obtain ⟨X12, X12', Y12, Y12', -, -, a12, a12', b12, b12', p12, p12', q12, q12', ⟨u12, e12⟩, ⟨v12, e12'⟩, ⟨t12, e12''⟩, S12⟩ := exch hTj.out (a) (a + k) (by rw [hsj.out]; omega) (by rw [hsj.out]; omega)
          have T1 := aside (S12 1)
          clear S12
          have g12_0a : ((a : Int)).toNat = a := by omega
          have g12_0b : (0 : Int) ≤ (a : Int) := by omega
          have g12_0c : (a : Int) < (n : Int) := by omega
          have g12_0d : IntKind.i64.wrap ((a : Int)) = (a : Int) := by rw [IntKind.wrap_i64]; omega
          have g12_1a : ((a : Int) + (k : Int)).toNat = a + k := by omega
          have g12_1b : (0 : Int) ≤ (a : Int) + (k : Int) := by omega
          have g12_1c : (a : Int) + (k : Int) < (n : Int) := by omega
          have g12_1d : IntKind.i64.wrap ((a : Int) + (k : Int)) = (a : Int) + (k : Int) := by rw [IntKind.wrap_i64]; omega
          go_wp2_with fail
          go_region
          clear e12 e12' e12'' a12 a12' b12 b12' p12 p12' q12 q12' g12_0a g12_0b g12_0c g12_0d g12_1a g12_1b g12_1c g12_1d
          go_wp2_with fail
          refine (tsift_at T1.out ((size_swp _ _ _).trans hsj.out) hn 0 k a (by omega) (by omega) (by omega) (by omega) (by omega)).mono ?_
          rintro e w2 ⟨rfl, T2, -⟩
          go_wp2_with fail
          go_roundg k
          case measure => omega
          case rel => exact ⟨by simp, by omega, _, (siftDown_size _ _ _ _ _ (Nat.le_refl _)).trans ((size_swp _ _ _).trans hsj.out), T2, hP⟩
    | succ k =>
      go_wp2_with fail
      refine (tsift_at hT.out hsk.out hn k (b - a) a (by omega) (by omega) (by omega) (by omega) (by omega)).mono ?_
      rintro e w1 ⟨rfl, T1, -⟩
      go_wp2_with fail
      go_roundg k
      case measure => omega
      case rel => exact ⟨by simp, by omega, _, (siftDown_size _ _ _ _ _ (Nat.le_refl _)).trans hsk.out, T1, hO⟩
end
end Go.Proofs.Ytaifmeajfldckaa
