/- slices' partialInsertionSortCmpFunc of items by keys does what the plain one does. Conditions: a < b <= n. -/
import Derived.Test.YtaifmeajfldckaaCmp
import Derived.Test.YtaifmeajfldckaaPar
namespace Go.Proofs.Ytaifmeajfldckaa
open Go.RowKit Go.Sort Go.Proofs

section
variable {blk n c1 : Nat}

set_option maxHeartbeats 16000000 in
set_option maxRecDepth 100000 in
theorem tpartialInsertionSort_any (d : Array (Int × Int)) (w : World) (h : Tn blk d w w) (hs : d.size = n) (hn : n ≤ 4096) (a b : Nat) (hab : a < b) (hb : b ≤ n) :
    Calls Try.prog 110 #[.slice (some ⟨blk, 0, none⟩) n c1, .int .i64 a, .int .i64 b, .func (.func 82) #[] #[]] w fun e w' => e = .returned (.bool (partialInsertionSort ltK d a b).2) ∧ Tn blk (partialInsertionSort ltK d a b).1 w w' := by
  have ek := byKey_enters
  have H := aside h
  have HS := aside hs
  clear h hs
  have HR : Aside (partialIns ltK a b 5 (a + 1) d = partialInsertionSort ltK d a b) := rfl
  generalize partialInsertionSort ltK d a b = r at HR ⊢
  go_enter Try.func110, Try.ntmps110
  go_wp2_with fail
  go_loopg [9, 10] 5 (fun g1 vi vs wr => ∃ (i s : Nat) (dk : Array (Int × Int)), vi = .int .i64 i ∧ vs = .int .i64 s ∧ s ≤ 5 ∧ 5 - s ≤ g1 ∧ (a < i ∧ i ≤ b) ∧ Aside (dk.size = n) ∧ Aside (Tn blk dk w wr) ∧ Aside (partialIns ltK a b (5 - s) i dk = partialIns ltK a b 5 (a + 1) d))
  case atStart => exact ⟨a + 1, 0, d, by go_num, rfl, by omega, by omega, ⟨by omega, by omega⟩, HS, H, rfl⟩
  case round =>
    obtain ⟨i, s, dk, rfl, rfl, hs5', hg1, ⟨hai, hib⟩, hsk, hT, hO⟩ := hrel
    by_cases hs5 : s < 5
    · have hsz5 : (s : Int) < 5 := by omega
      go_upto_block 2 with (fail)
      go_cut [9] from 15 to 140 (fun vi wc => ∃ kx : Nat, vi = .int .i64 kx ∧ i ≤ kx ∧ kx ≤ b ∧ Aside (Tn blk dk w wc) ∧ Aside (scanSorted ltK dk b i = kx))
      case first =>
        go_wp2_with fail
        go_loopg [9] (b - i) (fun g2 vi wr2 => ∃ kx : Nat, vi = .int .i64 kx ∧ i ≤ kx ∧ kx ≤ b ∧ b - kx ≤ g2 ∧ Aside (Tn blk dk w wr2) ∧ Aside (scanSorted ltK dk b kx = scanSorted ltK dk b i))
        case atStart => exact ⟨i, rfl, Nat.le_refl _, hib, Nat.le_refl _, hT, rfl⟩
        case round =>
          obtain ⟨kx, rfl, hik, hkb, hg2, hT2, HSc⟩ := hrel
          by_cases hkb' : kx < b
          · have hkz : (kx : Int) < (b : Int) := by omega
            cases hlv : ltK dk[kx]! dk[kx - 1]! with
            | false =>
              have HV := aside hlv
              clear hlv
              obtain ⟨x1, x1', y1, y1', ca1, cb1, cc1, cd1, hc1⟩ := cmpF hT2.out hsk.out (kx) (kx - 1) (by omega) (by omega) HV.out
              have g1_0a : ((kx : Int)).toNat = kx := by omega
              have g1_0b : (0 : Int) ≤ (kx : Int) := by omega
              have g1_0c : (kx : Int) < (n : Int) := by omega
              have g1_0d : IntKind.i64.wrap ((kx : Int)) = (kx : Int) := by rw [IntKind.wrap_i64]; omega
              have g1_1a : ((kx : Int) - 1).toNat = kx - 1 := by omega
              have g1_1b : (0 : Int) ≤ (kx : Int) - 1 := by omega
              have g1_1c : (kx : Int) - 1 < (n : Int) := by omega
              have g1_1d : IntKind.i64.wrap ((kx : Int) - 1) = (kx : Int) - 1 := by rw [IntKind.wrap_i64]; omega
              have gx1 : (1 : Int) ≤ (kx : Int) := by omega
              have gx2 : (0 : Int) < (kx : Int) := by omega
              go_wp2_with fail
              go_still_tail 14, (by kernel_rfl)
              change wpList _ _ _ _ _ wr.drew
              have TD1 := hT2.out.drewN 1
              change Tn _ _ _ wr.drew at TD1
              generalize wr.drew = wd1 at TD1 ⊢
              clear ca1 cb1 cc1 cd1 g1_0a g1_0b g1_0c g1_0d g1_1a g1_1b g1_1c g1_1d
              go_wp2_with fail
              refine (hc1.out wd1).mono ?_
              rintro e _ ⟨z1, rfl, hz1, o1, o1', rfl⟩
              have T1 := aside ((TD1.alloc o1).alloc o1')
              generalize (wd1.alloc o1).alloc o1' = w1 at T1 ⊢
              clear TD1 hc1 o1 o1'
              have hd1 : decide (z1 < 0) = false := decide_eq_false (by omega)
              go_wp2_with fail
              go_roundg (b - (kx + 1))
              case measure => omega
              case rel => exact ⟨kx + 1, by go_num, by omega, by omega, Nat.le_refl _, T1, by show _ = _; rw [← HSc.out, Pl.scanSorted_go dk b kx hkb' HV.out]⟩
            | true =>
              have HV := aside hlv
              clear hlv
              obtain ⟨x2, x2', y2, y2', ca2, cb2, cc2, cd2, hc2⟩ := cmpT hT2.out hsk.out (kx) (kx - 1) (by omega) (by omega) HV.out
              have g2_0a : ((kx : Int)).toNat = kx := by omega
              have g2_0b : (0 : Int) ≤ (kx : Int) := by omega
              have g2_0c : (kx : Int) < (n : Int) := by omega
              have g2_0d : IntKind.i64.wrap ((kx : Int)) = (kx : Int) := by rw [IntKind.wrap_i64]; omega
              have g2_1a : ((kx : Int) - 1).toNat = kx - 1 := by omega
              have g2_1b : (0 : Int) ≤ (kx : Int) - 1 := by omega
              have g2_1c : (kx : Int) - 1 < (n : Int) := by omega
              have g2_1d : IntKind.i64.wrap ((kx : Int) - 1) = (kx : Int) - 1 := by rw [IntKind.wrap_i64]; omega
              have gx1 : (1 : Int) ≤ (kx : Int) := by omega
              have gx2 : (0 : Int) < (kx : Int) := by omega
              go_wp2_with fail
              go_still_tail 14, (by kernel_rfl)
              change wpList _ _ _ _ _ wr.drew
              have TD2 := hT2.out.drewN 1
              change Tn _ _ _ wr.drew at TD2
              generalize wr.drew = wd2 at TD2 ⊢
              clear ca2 cb2 cc2 cd2 g2_0a g2_0b g2_0c g2_0d g2_1a g2_1b g2_1c g2_1d
              go_wp2_with fail
              refine (hc2.out wd2).mono ?_
              rintro e _ ⟨z2, rfl, hz2, o2, o2', rfl⟩
              have T1 := aside ((TD2.alloc o2).alloc o2')
              generalize (wd2.alloc o2).alloc o2' = w1 at T1 ⊢
              clear TD2 hc2 o2 o2'
              have hd2 : decide (z2 < 0) = true := decide_eq_true (by omega)
              go_wp2_with fail
              go_meet
              case rel => exact ⟨kx, rfl, hik, hkb, T1, by show _ = _; rw [← HSc.out, Pl.scanSorted_stop dk b kx (.inr HV.out)]⟩
          · have hkz : ¬ (kx : Int) < (b : Int) := by omega
            have hkzd : decide (kx < b) = false := decide_eq_false hkb'
            have hkzd' : decide ((kx : Int) < (b : Int)) = false := decide_eq_false hkz
            go_wp2_with fail
            go_quiet (fail)
            have T1 := aside (hT2.out.drewN nq)
            generalize wr.drewN nq = w1 at T1 ⊢
            go_wp2_with fail
            go_meet
            case rel => exact ⟨kx, rfl, hik, hkb, T1, by show _ = _; rw [← HSc.out, Pl.scanSorted_stop dk b kx (.inl hkb')]⟩
      case rest =>
        clear hT
        obtain ⟨kx, rfl, hik, hkb, hT, HK⟩ := hcut
        by_cases hkeq : kx = b
        · subst hkeq
          have hv := aside (HR.out.symm.trans (hO.out.symm.trans (pi_true' a kx s i dk hs5 HK.out)))
          go_wp2_with fail
          go_ret
          rw [hv.out]
          exact ⟨rfl, hT.out⟩
        · have hkne : ((kx : Int) == (b : Int)) = false := beq_eq_false_iff_ne.2 (by omega)
          by_cases h50 : b - a < 50
          · have h50z : (b : Int) - (a : Int) < 50 := by omega
            have hv := aside (HR.out.symm.trans (hO.out.symm.trans (pi_short' a b s i dk hs5 (by rw [HK.out]; exact hkeq) h50)))
            go_wp2_with fail
            go_ret
            rw [hv.out]
            exact ⟨rfl, hT.out⟩
          · have h50z : ¬ ((b : Int) - (a : Int) < 50) := by omega
            obtain ⟨X3, X3', Y3, Y3', -, -, a3, a3', b3, b3', p3, p3', q3, q3', ⟨u3, e3⟩, ⟨v3, e3'⟩, ⟨t3, e3''⟩, S3⟩ := exch hT.out (kx) (kx - 1) (by rw [hsk.out]; omega) (by rw [hsk.out]; omega)
            have T2 := aside (S3 1)
            clear S3
            have g3_0a : ((kx : Int)).toNat = kx := by omega
            have g3_0b : (0 : Int) ≤ (kx : Int) := by omega
            have g3_0c : (kx : Int) < (n : Int) := by omega
            have g3_0d : IntKind.i64.wrap ((kx : Int)) = (kx : Int) := by rw [IntKind.wrap_i64]; omega
            have g3_1a : ((kx : Int) - 1).toNat = kx - 1 := by omega
            have g3_1b : (0 : Int) ≤ (kx : Int) - 1 := by omega
            have g3_1c : (kx : Int) - 1 < (n : Int) := by omega
            have g3_1d : IntKind.i64.wrap ((kx : Int) - 1) = (kx : Int) - 1 := by rw [IntKind.wrap_i64]; omega
            have gx1 : (1 : Int) ≤ (kx : Int) := by omega
            have gx2 : (0 : Int) < (kx : Int) := by omega
            go_wp2_with fail
            go_region
            clear e3 e3' e3'' a3 a3' b3 b3' p3 p3' q3 q3' g3_0a g3_0b g3_0c g3_0d g3_1a g3_1b g3_1c g3_1d
            have HX := aside ((size_swp dk kx (kx - 1)).trans hsk.out)
            go_upto_if 65 with (fail)
            go_cut [11] from 15 to 140 (fun _ wc => Aside (Tn blk (fixDown ltK a kx (swp dk kx (kx - 1))) w wc))
            case first =>
              by_cases hka : kx - a ≥ 2
              · have hkaz : (2 : Int) ≤ (kx : Int) - (a : Int) := by omega
                have hkad : decide ((2 : Int) ≤ (kx : Int) - (a : Int)) = true := decide_eq_true hkaz
                rw [hkad]
                clear hkad
                go_wp2_with fail
                go_loopg [11] (kx - 1) (fun g3 vj wr3 => ∃ (j : Nat) (dj : Array (Int × Int)), vj = .int .i64 j ∧ j ≤ kx - 1 ∧ j ≤ g3 ∧ Aside (dj.size = n) ∧ Aside (Tn blk dj w wr3) ∧ Aside (shiftDown ltK j dj = shiftDown ltK (kx - 1) (swp dk kx (kx - 1))))
                case atStart => exact ⟨kx - 1, _, by congr 1; omega, Nat.le_refl _, Nat.le_refl _, HX, T2, rfl⟩
                case round =>
                  clear T2
                  obtain ⟨j, dj, rfl, hjk, hg3, hsj, hTj, HDn⟩ := hrel
                  by_cases hj1 : 1 ≤ j
                  · have hj1z : (1 : Int) ≤ (j : Int) := by omega
                    cases hlv2 : ltK dj[j]! dj[j - 1]! with
                    | true =>
                      have HV2 := aside hlv2
                      clear hlv2
                      obtain ⟨x4, x4', y4, y4', ca4, cb4, cc4, cd4, hc4⟩ := cmpT hTj.out hsj.out (j) (j - 1) (by omega) (by omega) HV2.out
                      have g4_0a : ((j : Int)).toNat = j := by omega
                      have g4_0b : (0 : Int) ≤ (j : Int) := by omega
                      have g4_0c : (j : Int) < (n : Int) := by omega
                      have g4_0d : IntKind.i64.wrap ((j : Int)) = (j : Int) := by rw [IntKind.wrap_i64]; omega
                      have g4_1a : ((j : Int) - 1).toNat = j - 1 := by omega
                      have g4_1b : (0 : Int) ≤ (j : Int) - 1 := by omega
                      have g4_1c : (j : Int) - 1 < (n : Int) := by omega
                      have g4_1d : IntKind.i64.wrap ((j : Int) - 1) = (j : Int) - 1 := by rw [IntKind.wrap_i64]; omega
                      have gx1 : (1 : Int) ≤ (j : Int) := by omega
                      have gx2 : (0 : Int) < (j : Int) := by omega
                      go_wp2_with fail
                      go_still_tail 10, (by kernel_rfl)
                      change wpList _ _ _ _ _ wr.drew
                      have TD4 := hTj.out.drewN 1
                      change Tn _ _ _ wr.drew at TD4
                      generalize wr.drew = wd4 at TD4 ⊢
                      clear ca4 cb4 cc4 cd4 g4_0a g4_0b g4_0c g4_0d g4_1a g4_1b g4_1c g4_1d
                      go_wp2_with fail
                      refine (hc4.out wd4).mono ?_
                      rintro e _ ⟨z4, rfl, hz4, o4, o4', rfl⟩
                      have T3 := aside ((TD4.alloc o4).alloc o4')
                      generalize (wd4.alloc o4).alloc o4' = w3 at T3 ⊢
                      clear TD4 hc4 o4 o4'
                      have hd4 : decide (z4 < 0) = true := decide_eq_true (by omega)
                      go_wp2_with fail
                      obtain ⟨X5, X5', Y5, Y5', -, -, a5, a5', b5, b5', p5, p5', q5, q5', ⟨u5, e5⟩, ⟨v5, e5'⟩, ⟨t5, e5''⟩, S5⟩ := exch T3.out (j) (j - 1) (by rw [hsj.out]; omega) (by rw [hsj.out]; omega)
                      have T4 := aside (S5 1)
                      clear S5
                      have g5_0a : ((j : Int)).toNat = j := by omega
                      have g5_0b : (0 : Int) ≤ (j : Int) := by omega
                      have g5_0c : (j : Int) < (n : Int) := by omega
                      have g5_0d : IntKind.i64.wrap ((j : Int)) = (j : Int) := by rw [IntKind.wrap_i64]; omega
                      have g5_1a : ((j : Int) - 1).toNat = j - 1 := by omega
                      have g5_1b : (0 : Int) ≤ (j : Int) - 1 := by omega
                      have g5_1c : (j : Int) - 1 < (n : Int) := by omega
                      have g5_1d : IntKind.i64.wrap ((j : Int) - 1) = (j : Int) - 1 := by rw [IntKind.wrap_i64]; omega
                      have gy1 : (1 : Int) ≤ (j : Int) := by omega
                      have gy2 : (0 : Int) < (j : Int) := by omega
                      go_wp2_with fail
                      go_region
                      clear e5 e5' e5'' a5 a5' b5 b5' p5 p5' q5 q5' g5_0a g5_0b g5_0c g5_0d g5_1a g5_1b g5_1c g5_1d
                      go_wp2_with fail
                      go_roundg (j - 1)
                      case measure => omega
                      case rel => exact ⟨j - 1, _, by congr 1; omega, by omega, Nat.le_refl _, (size_swp _ _ _).trans hsj.out, T4, by show _ = _; rw [← HDn.out, Pl.shiftDown_go j dj hj1 HV2.out]⟩
                    | false =>
                      have HV2 := aside hlv2
                      clear hlv2
                      obtain ⟨x6, x6', y6, y6', ca6, cb6, cc6, cd6, hc6⟩ := cmpF hTj.out hsj.out (j) (j - 1) (by omega) (by omega) HV2.out
                      have g6_0a : ((j : Int)).toNat = j := by omega
                      have g6_0b : (0 : Int) ≤ (j : Int) := by omega
                      have g6_0c : (j : Int) < (n : Int) := by omega
                      have g6_0d : IntKind.i64.wrap ((j : Int)) = (j : Int) := by rw [IntKind.wrap_i64]; omega
                      have g6_1a : ((j : Int) - 1).toNat = j - 1 := by omega
                      have g6_1b : (0 : Int) ≤ (j : Int) - 1 := by omega
                      have g6_1c : (j : Int) - 1 < (n : Int) := by omega
                      have g6_1d : IntKind.i64.wrap ((j : Int) - 1) = (j : Int) - 1 := by rw [IntKind.wrap_i64]; omega
                      have gx1 : (1 : Int) ≤ (j : Int) := by omega
                      have gx2 : (0 : Int) < (j : Int) := by omega
                      go_wp2_with fail
                      go_still_tail 10, (by kernel_rfl)
                      change wpList _ _ _ _ _ wr.drew
                      have TD6 := hTj.out.drewN 1
                      change Tn _ _ _ wr.drew at TD6
                      generalize wr.drew = wd6 at TD6 ⊢
                      clear ca6 cb6 cc6 cd6 g6_0a g6_0b g6_0c g6_0d g6_1a g6_1b g6_1c g6_1d
                      go_wp2_with fail
                      refine (hc6.out wd6).mono ?_
                      rintro e _ ⟨z6, rfl, hz6, o6, o6', rfl⟩
                      have T3 := aside ((TD6.alloc o6).alloc o6')
                      generalize (wd6.alloc o6).alloc o6' = w3 at T3 ⊢
                      clear TD6 hc6 o6 o6'
                      have hd6 : decide (z6 < 0) = false := decide_eq_false (by omega)
                      go_wp2_with fail
                      go_meet
                      case rel => show Tn _ _ _ _; rw [fixDown, if_pos hka, ← HDn.out, Pl.shiftDown_stop j dj (.inr HV2.out)]; exact T3.out
                  · have hj1z : ¬ (1 : Int) ≤ (j : Int) := by omega
                    go_wp2_with fail
                    go_meet
                    case rel => show Tn _ _ _ _; rw [fixDown, if_pos hka, ← HDn.out, Pl.shiftDown_stop j dj (.inl (by omega))]; exact hTj.out
              · have hkaz : ¬ (2 : Int) ≤ (kx : Int) - (a : Int) := by omega
                go_wp2_with fail
                go_meet
                case rel => show Tn _ _ _ _; rw [fixDown, if_neg hka]; exact T2.out
            case rest =>
              have hTD := hcut
              clear hcut T2
              have HFD := aside ((fixDown_size (lt := ltK) a kx (swp dk kx (kx - 1))).trans HX.out)
              obtain ⟨D, hD⟩ : ∃ D, fixDown ltK a kx (swp dk kx (kx - 1)) = D := ⟨_, rfl⟩
              rw [hD] at hTD HFD
              have HD := aside hD.symm
              clear hD
              by_cases hbk : b - kx ≥ 2
              · have hbkz : (2 : Int) ≤ (b : Int) - (kx : Int) := by omega
                go_wp2_with fail
                go_loopg [12] (b - (kx + 1)) (fun g4 vj wr4 => ∃ (y : Nat) (du : Array (Int × Int)), vj = .int .i64 y ∧ kx + 1 ≤ y ∧ y ≤ b ∧ b - y ≤ g4 ∧ Aside (du.size = n) ∧ Aside (Tn blk du w wr4) ∧ Aside (shiftUp ltK b y du = shiftUp ltK b (kx + 1) D))
                case atStart => exact ⟨kx + 1, D, by go_num, Nat.le_refl _, by omega, Nat.le_refl _, HFD, hTD, rfl⟩
                case round =>
                  obtain ⟨y, du, rfl, hky, hyb, hg4, hsu, hTu, HU⟩ := hrel
                  by_cases hyb' : y < b
                  · have hyz : (y : Int) < (b : Int) := by omega
                    cases hlv3 : ltK du[y]! du[y - 1]! with
                    | true =>
                      have HV3 := aside hlv3
                      clear hlv3
                      obtain ⟨x7, x7', y7, y7', ca7, cb7, cc7, cd7, hc7⟩ := cmpT hTu.out hsu.out (y) (y - 1) (by omega) (by omega) HV3.out
                      have g7_0a : ((y : Int)).toNat = y := by omega
                      have g7_0b : (0 : Int) ≤ (y : Int) := by omega
                      have g7_0c : (y : Int) < (n : Int) := by omega
                      have g7_0d : IntKind.i64.wrap ((y : Int)) = (y : Int) := by rw [IntKind.wrap_i64]; omega
                      have g7_1a : ((y : Int) - 1).toNat = y - 1 := by omega
                      have g7_1b : (0 : Int) ≤ (y : Int) - 1 := by omega
                      have g7_1c : (y : Int) - 1 < (n : Int) := by omega
                      have g7_1d : IntKind.i64.wrap ((y : Int) - 1) = (y : Int) - 1 := by rw [IntKind.wrap_i64]; omega
                      have gx1 : (1 : Int) ≤ (y : Int) := by omega
                      have gx2 : (0 : Int) < (y : Int) := by omega
                      go_wp2_with fail
                      go_still_tail 10, (by kernel_rfl)
                      change wpList _ _ _ _ _ wr.drew
                      have TD7 := hTu.out.drewN 1
                      change Tn _ _ _ wr.drew at TD7
                      generalize wr.drew = wd7 at TD7 ⊢
                      clear ca7 cb7 cc7 cd7 g7_0a g7_0b g7_0c g7_0d g7_1a g7_1b g7_1c g7_1d
                      go_wp2_with fail
                      refine (hc7.out wd7).mono ?_
                      rintro e _ ⟨z7, rfl, hz7, o7, o7', rfl⟩
                      have T5 := aside ((TD7.alloc o7).alloc o7')
                      generalize (wd7.alloc o7).alloc o7' = w5 at T5 ⊢
                      clear TD7 hc7 o7 o7'
                      have hd7 : decide (z7 < 0) = true := decide_eq_true (by omega)
                      go_wp2_with fail
                      obtain ⟨X8, X8', Y8, Y8', -, -, a8, a8', b8, b8', p8, p8', q8, q8', ⟨u8, e8⟩, ⟨v8, e8'⟩, ⟨t8, e8''⟩, S8⟩ := exch T5.out (y) (y - 1) (by rw [hsu.out]; omega) (by rw [hsu.out]; omega)
                      have T6 := aside (S8 1)
                      clear S8
                      have g8_0a : ((y : Int)).toNat = y := by omega
                      have g8_0b : (0 : Int) ≤ (y : Int) := by omega
                      have g8_0c : (y : Int) < (n : Int) := by omega
                      have g8_0d : IntKind.i64.wrap ((y : Int)) = (y : Int) := by rw [IntKind.wrap_i64]; omega
                      have g8_1a : ((y : Int) - 1).toNat = y - 1 := by omega
                      have g8_1b : (0 : Int) ≤ (y : Int) - 1 := by omega
                      have g8_1c : (y : Int) - 1 < (n : Int) := by omega
                      have g8_1d : IntKind.i64.wrap ((y : Int) - 1) = (y : Int) - 1 := by rw [IntKind.wrap_i64]; omega
                      have gy1 : (1 : Int) ≤ (y : Int) := by omega
                      have gy2 : (0 : Int) < (y : Int) := by omega
                      go_wp2_with fail
                      go_region
                      clear e8 e8' e8'' a8 a8' b8 b8' p8 p8' q8 q8' g8_0a g8_0b g8_0c g8_0d g8_1a g8_1b g8_1c g8_1d
                      go_wp2_with fail
                      go_roundg (b - (y + 1))
                      case measure => omega
                      case rel => exact ⟨y + 1, _, by go_num, by omega, by omega, Nat.le_refl _, (size_swp _ _ _).trans hsu.out, T6, by show _ = _; rw [← HU.out, Pl.shiftUp_go b y du hyb' HV3.out]⟩
                    | false =>
                      have HV3 := aside hlv3
                      clear hlv3
                      obtain ⟨x9, x9', y9, y9', ca9, cb9, cc9, cd9, hc9⟩ := cmpF hTu.out hsu.out (y) (y - 1) (by omega) (by omega) HV3.out
                      have g9_0a : ((y : Int)).toNat = y := by omega
                      have g9_0b : (0 : Int) ≤ (y : Int) := by omega
                      have g9_0c : (y : Int) < (n : Int) := by omega
                      have g9_0d : IntKind.i64.wrap ((y : Int)) = (y : Int) := by rw [IntKind.wrap_i64]; omega
                      have g9_1a : ((y : Int) - 1).toNat = y - 1 := by omega
                      have g9_1b : (0 : Int) ≤ (y : Int) - 1 := by omega
                      have g9_1c : (y : Int) - 1 < (n : Int) := by omega
                      have g9_1d : IntKind.i64.wrap ((y : Int) - 1) = (y : Int) - 1 := by rw [IntKind.wrap_i64]; omega
                      have gx1 : (1 : Int) ≤ (y : Int) := by omega
                      have gx2 : (0 : Int) < (y : Int) := by omega
                      go_wp2_with fail
                      go_still_tail 10, (by kernel_rfl)
                      change wpList _ _ _ _ _ wr.drew
                      have TD9 := hTu.out.drewN 1
                      change Tn _ _ _ wr.drew at TD9
                      generalize wr.drew = wd9 at TD9 ⊢
                      clear ca9 cb9 cc9 cd9 g9_0a g9_0b g9_0c g9_0d g9_1a g9_1b g9_1c g9_1d
                      go_wp2_with fail
                      refine (hc9.out wd9).mono ?_
                      rintro e _ ⟨z9, rfl, hz9, o9, o9', rfl⟩
                      have T5 := aside ((TD9.alloc o9).alloc o9')
                      generalize (wd9.alloc o9).alloc o9' = w5 at T5 ⊢
                      clear TD9 hc9 o9 o9'
                      have hd9 : decide (z9 < 0) = false := decide_eq_false (by omega)
                      go_wp2_with fail
                      go_roundg (5 - (s + 1))
                      case measure => omega
                      case rel => exact ⟨kx, s + 1, _, rfl, by go_num, by omega, by omega, by omega, hsu, T5, by show _ = _; rw [← hO.out, pi_go' a b s i kx dk hs5 HK.out (by omega) h50, ← HD.out]; rw [fixUp, if_pos hbk, ← HU.out, Pl.shiftUp_stop b y du (.inr HV3.out)]⟩
                  · have hyz : ¬ (y : Int) < (b : Int) := by omega
                    go_wp2_with fail
                    go_roundg (5 - (s + 1))
                    case measure => omega
                    case rel => exact ⟨kx, s + 1, _, rfl, by go_num, by omega, by omega, by omega, hsu, hTu, by show _ = _; rw [← hO.out, pi_go' a b s i kx dk hs5 HK.out (by omega) h50, ← HD.out]; rw [fixUp, if_pos hbk, ← HU.out, Pl.shiftUp_stop b y du (.inl hyb')]⟩
              · have hbkz : ¬ (2 : Int) ≤ (b : Int) - (kx : Int) := by omega
                go_wp2_with fail
                go_roundg (5 - (s + 1))
                case measure => omega
                case rel => exact ⟨kx, s + 1, _, rfl, by go_num, by omega, by omega, by omega, HFD, hTD, by show _ = _; rw [← hO.out, pi_go' a b s i kx dk hs5 HK.out (by omega) h50, ← HD.out]; rw [fixUp, if_neg hbk]⟩
    · obtain rfl : s = 5 := by omega
      have hv := aside (HR.out.symm.trans (hO.out.symm.trans (show partialIns ltK a b (5 - 5) i dk = (dk, false) from rfl)))
      go_wp2_with fail
      go_ret
      rw [hv.out]
      exact ⟨rfl, hT.out⟩
theorem tpartialInsertionSort_at {w0 w : World} {d : Array (Int × Int)} (h : Tn blk d w0 w) (hs : d.size = n) (hn : n ≤ 4096) (a b : Nat) (hab : a < b) (hb : b ≤ n) {A B : Int} (eA : A = a) (eB : B = b) :
    Calls Try.prog 110 #[.slice (some ⟨blk, 0, none⟩) n c1, .int .i64 A, .int .i64 B, .func (.func 82) #[] #[]] w (TPost blk (partialInsertionSort ltK d a b).1 w0 w (.bool (partialInsertionSort ltK d a b).2)) := by
  subst eA eB
  exact tpost (tpartialInsertionSort_any d w h.self hs hn a b hab hb) h (Pl.partialInsertionSort_size _ _ _)
end
end Go.Proofs.Ytaifmeajfldckaa
