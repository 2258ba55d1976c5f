/- slices' pdqsortCmpFunc of items by keys does what the plain pdq does. Conditions: 0 <= a <= b <= n, no item ahead of the range is greater than one in it, limit at most 1000. -/
import Derived.Test.YtaifmeajfldckaaTwHeapB
import Derived.Test.YtaifmeajfldckaaTwStb
import Derived.Test.YtaifmeajfldckaaTwPart
import Derived.Test.YtaifmeajfldckaaTwPar
import Derived.Test.YtaifmeajfldckaaTwBrk
import Derived.Test.YtaifmeajfldckaaTwPiv
import Derived.Test.YtaifmeajfldckaaPdq
namespace Go.Proofs.Ytaifmeajfldckaa
open Go.RowKit Go.Sort Go.Proofs

section
variable {blk n c1 : Nat}
theorem theap_at {w0 w : World} {d : Array (Int × Int)} (h : Tn blk d w0 w) (hs : d.size = n) (hn : n ≤ 4096) (a b : Nat) (hab : a ≤ b) (hb : b ≤ n) {A B : Int} (eA : A = a) (eB : B = b) :
    Calls Try.prog 86 #[.slice (some ⟨blk, 0, none⟩) n c1, .int .i64 A, .int .i64 B, .func (.func 82) #[] #[]] w (TPost blk (heapSort ltK d a b) w0 w (.tuple #[])) := by
  subst eA eB
  exact tpost (theap_any d w h.self hs hn a b hab hb) h (heapSort_size _ _ _)

set_option maxHeartbeats 16000000 in
set_option maxRecDepth 1000000 in
theorem tpdq_any (hn : n ≤ 4096) : ∀ (N a b limit : Nat) (d : Array (Int × Int)) (w : World), b - a < N → Tn blk d w w → d.size = n → a ≤ b → b ≤ n → limit ≤ 1000 → Sort.Below ltK a b d →
    Calls Try.prog 94 #[.slice (some ⟨blk, 0, none⟩) n c1, .int .i64 a, .int .i64 b, .int .i64 limit, .func (.func 82) #[] #[]] w fun e w' => e = .returned (.tuple #[]) ∧ Tn blk (pdq ltK d a b limit true true) w w' := by
  intro N
  induction N with
  | zero => intro _ _ _ _ _ h; exact absurd h (Nat.not_lt_zero _)
  | succ N ih =>
    intro a b limit d w hN h hs hab hb hlimit hBel0
    have ek := byKey_enters
    have IH := aside ih
    have H0 := aside h
    have HS := aside hs
    have HB0 := aside hBel0
    clear ih h hs hBel0
    go_enter Try.func94, Try.ntmps94
    go_wp2
    go_loopg [1, 2, 3, 10, 11] (b - a) (fun k s1 s2 s3 s8 s9 wr => ∃ (x y lim : Nat) (wb wp : Bool) (dk : Array (Int × Int)), s1 = .int .i64 x ∧ s2 = .int .i64 y ∧ s3 = .int .i64 lim ∧ s8 = .bool wb ∧ s9 = .bool wp ∧
      x ≤ y ∧ y ≤ n ∧ y - x ≤ k ∧ k ≤ b - a ∧ lim ≤ limit ∧ Aside (dk.size = n) ∧ Aside (Sort.Below ltK x y dk) ∧ Aside (Tn blk dk w wr) ∧ Aside (pdq ltK dk x y lim wb wp = pdq ltK d a b limit true true))
    case atStart => exact ⟨a, b, limit, true, true, d, rfl, rfl, rfl, rfl, rfl, hab, hb, Nat.le_refl _, Nat.le_refl _, Nat.le_refl _, HS, HB0, H0, rfl⟩
    case round =>
      obtain ⟨x, y, lim, wb, wp, dk, rfl, rfl, rfl, rfl, rfl, hxy, hyn, hk, hkN, hlim, hds, hBel, hAt, A⟩ := hrel
      by_cases h12 : y - x ≤ 12
      · have h12z : (y : Int) - (x : Int) ≤ 12 := by omega
        go_wp2_with fail
        refine (tins_at hAt.out hds.out hn x y hxy hyn (by omega) (by omega)).mono ?_
        rintro e w1 ⟨rfl, T1, -⟩
        go_wp2_with fail
        go_returns
        exact ⟨rfl, by rw [← A.out, pdq_small h12]; exact T1.out⟩
      · have h12z : ¬ ((y : Int) - (x : Int) ≤ 12) := by omega
        by_cases hl0 : lim = 0
        · subst hl0
          go_wp2_with fail
          refine (theap_at (c1 := c1) hAt.out hds.out hn x y hxy hyn (by omega) (by omega)).mono ?_
          rintro e w1 ⟨rfl, T1, -⟩
          go_wp2_with fail
          go_returns
          exact ⟨rfl, by rw [← A.out, pdq_heap h12 rfl]; exact T1.out⟩
        · have hl0z : ¬ ((lim : Int) = 0) := by omega
          obtain ⟨s1, B1, hc1, s2, B2, hpv, s3, B3⟩ := rd_facts (lt := ltK) (limit := lim) (wb := wb) (wp := wp) swoK partialInsertionSort_holds reverseRange_holds (show x < y by omega) (show y ≤ dk.size by rw [hds.out]; omega) hBel.out
          have z1 := aside (s1.trans hds.out)
          have z2 := aside (s2.trans hds.out)
          have z3 := aside (s3.trans hds.out)
          have B3 := aside B3
          have hlr : (rd ltK dk x y lim wb wp).lim ≤ lim := rd_lim_le
          obtain ⟨hpv1, hpv2⟩ := hpv
          obtain ⟨hc1, hc2⟩ := hc1
          have HC1 := aside (And.intro hc1 hc2)
          clear s1 s2 s3 B1 B2
          go_upto_if 39 with (fail)
          go_cut [3] from 21 (fun v3 wc => v3 = .int .i64 (rd ltK dk x y lim wb wp).lim ∧ Aside (Tn blk (rd ltK dk x y lim wb wp).d1 w wc))
          case first =>
            cases wb
            · go_wp2_with fail
              refine (tbreakPatterns_at (c1 := c1) hAt.out hds.out hn x y hxy hyn (by omega) (by omega)).mono ?_
              rintro e w1 ⟨rfl, T1, -⟩
              go_wp2_with fail
              go_meet
              case rel =>
                refine ⟨?_, T1⟩
                show Value.int .i64 ((lim : Int) - 1) = Value.int .i64 ((lim - 1 : Nat) : Int)
                congr 1
                omega
            · go_wp2_with fail
              go_meet
              case rel => exact ⟨rfl, hAt⟩
          case rest =>
            obtain ⟨rfl, hAt1⟩ := hcut
            have hcp : Calls Try.prog 108 #[.slice (some ⟨blk, 0, none⟩) n c1, .int .i64 x, .int .i64 y, .func (.func 82) #[] #[]] wc (TPost blk (rd ltK dk x y lim wb wp).d1 w wc (.tuple #[.int .i64 (rd ltK dk x y lim wb wp).c.1, .int .i64 (hintCode (rd ltK dk x y lim wb wp).c.2)])) :=
              tchoosePivot_at (cap := c1) hAt1.out z1.out hn x y (by omega) hyn rfl rfl
            go_upto_if 56 with (go_at_call 108; refine hcp.mono ?_; rintro e w2 ⟨rfl, hAt2, -⟩)
            go_cut [13, 14] from 21 (fun v11 v12 wc => v11 = .int .i64 (rd ltK dk x y lim wb wp).pivot ∧ v12 = .int .i64 (hintCode (rd ltK dk x y lim wb wp).hint) ∧ Aside (Tn blk (rd ltK dk x y lim wb wp).d2 w wc))
            case first =>
              by_cases hh : (rd ltK dk x y lim wb wp).c.2 = .decreasing
              · have hcode : hintCode (rd ltK dk x y lim wb wp).c.2 = 2 := by rw [hh]; rfl
                obtain ⟨e2, epv, eht⟩ := rd_dec hh
                have E2 := aside e2
                have EPV := aside epv
                have EHT := aside eht
                clear hh e2 epv eht
                go_wp2_with fail
                refine (treverseRange_at (cap := c1) hAt2.out z1.out hn x y (by omega) hyn (by omega) (by omega)).mono ?_
                rintro e w3 ⟨rfl, T3, -⟩
                go_wp2_with fail
                go_meet
                case rel =>
                  refine ⟨?_, by rw [EHT.out]; rfl, by rw [E2.out]; exact T3⟩
                  rw [EPV.out]
                  congr 1
                  omega
              · have hcode : ¬ (hintCode (rd ltK dk x y lim wb wp).c.2 = 2) := fun h => hh (hintCode_two h)
                obtain ⟨e2, epv, eht⟩ := rd_not hh
                have E2 := aside e2
                have EPV := aside epv
                have EHT := aside eht
                clear hh e2 epv eht
                go_wp2_with fail
                go_meet
                case rel => exact ⟨by rw [EPV.out], by rw [EHT.out], by rw [E2.out]; exact hAt2⟩
            case rest =>
              obtain ⟨rfl, rfl, hAt3⟩ := hcut
              clear hAt1 hAt2
              go_upto_region 15 with (fail)
              go_cut [14, 75] from 21 (fun v12 v68 wx => v12 = .int .i64 (hintCode (rd ltK dk x y lim wb wp).hint) ∧ v68 = .bool (wb && wp && decide ((rd ltK dk x y lim wb wp).hint = .increasing)) ∧ wx = wc)
              case first =>
                cases wb <;> cases wp <;> cases hh3 : (rd ltK dk x y lim _ _).hint <;>
                  (have hcode3 := congrArg hintCode hh3
                   simp only [hintCode] at hcode3
                   go_wp2_with fail
                   go_meet
                   exact ⟨by simp [hh3, hintCode], by simp [hh3, hintCode], rfl⟩)
              case rest =>
                obtain ⟨rfl, rfl, hwx⟩ := hcut
                obtain rfl := hwx.symm
                go_upto_if 75 with (fail)
                go_cut [14] from 21 (fun v12 wx => v12 = .int .i64 (hintCode (rd ltK dk x y lim wb wp).hint) ∧ Aside ((rd ltK dk x y lim wb wp).pi.2 = false) ∧ Aside (Tn blk (rd ltK dk x y lim wb wp).pi.1 w wx))
                case first =>
                  cases h68 : (wb && wp && decide ((rd ltK dk x y lim wb wp).hint = .increasing))
                  · have EPI := aside (rd_pi_no h68)
                    go_wp2_with fail
                    go_meet
                    case rel => exact ⟨rfl, by rw [EPI.out]; exact rfl, by rw [EPI.out]; exact hAt3⟩
                  · have epi := rd_pi_yes h68
                    have hc := tpartialInsertionSort_at (c1 := c1) hAt3.out z2.out hn x y (by omega) hyn rfl rfl
                    rw [← epi] at hc
                    have HC := aside hc
                    clear epi hc
                    cases hp2 : (rd ltK dk x y lim wb wp).pi.2 with
                    | false =>
                      rw [hp2] at HC
                      have HP2 := aside hp2
                      clear hp2
                      go_wp2_with fail
                      refine HC.out.mono ?_
                      rintro e w4 ⟨rfl, T4, -⟩
                      go_wp2_with fail
                      go_meet
                      case rel => exact ⟨rfl, HP2, T4⟩
                    | true =>
                      rw [hp2] at HC
                      have HP2 := aside hp2
                      clear hp2
                      go_wp2_with fail
                      refine HC.out.mono ?_
                      rintro e w4 ⟨rfl, T4, -⟩
                      go_wp2_with fail
                      go_returns
                      exact ⟨rfl, by rw [← A.out, pdq_done h12 hl0 HP2.out]; exact T4.out⟩
                case rest =>
                  obtain ⟨rfl, HP2, hAt5⟩ := hcut
                  clear hAt3
                  go_upto_region 17 with (fail)
                  go_cut [97] from 21 (fun v82 wx => v82 = .bool (decide (x > 0) && !ltK (rd ltK dk x y lim wb wp).pi.1[x - 1]! (rd ltK dk x y lim wb wp).pi.1[(rd ltK dk x y lim wb wp).pivot]!) ∧ Aside (Tn blk (rd ltK dk x y lim wb wp).pi.1 w wx))
                  case first =>
                    rcases Nat.eq_zero_or_pos x with ha0 | ha0
                    · have ha0z : decide ((x : Int) > 0) = false := decide_eq_false (by omega)
                      have HA0 := aside ha0
                      have hn0d : decide (0 < x) = false := decide_eq_false (by omega)
                      have hn0z : decide ((0 : Int) < (x : Int)) = false := decide_eq_false (by omega)
                      have hn0 : ¬ (0 : Int) < (x : Int) := by omega
                      clear ha0
                      go_wp2_with fail
                      go_quiet (fail)
                      have TQ := aside (hAt5.out.drewN nq)
                      generalize wc.drewN nq = wq at TQ ⊢
                      go_wp2_with fail
                      go_meet
                      case rel => exact ⟨by simp [HA0.out], TQ⟩
                    · have ha0z : (x : Int) > 0 := by omega
                      cases hlv : ltK (rd ltK dk x y lim wb wp).pi.1[x - 1]! (rd ltK dk x y lim wb wp).pi.1[(rd ltK dk x y lim wb wp).pivot]! with
                      | true =>
                        have HV := aside hlv
                        clear hlv
                        obtain ⟨x1, x1', y1, y1', ca1, cb1, cc1, cd1, hc1⟩ := cmpT hAt5.out z3.out (x - 1) ((rd ltK dk x y lim wb wp).pivot) (by omega) (by omega) HV.out
                        have g1_0a : ((x : Int) - 1).toNat = x - 1 := by omega
                        have g1_0b : (0 : Int) ≤ (x : Int) - 1 := by omega
                        have g1_0c : (x : Int) - 1 < (n : Int) := by omega
                        have g1_0d : IntKind.i64.wrap ((x : Int) - 1) = (x : Int) - 1 := by rw [IntKind.wrap_i64]; omega
                        have g1_1a : (((rd ltK dk x y lim wb wp).pivot : Int)).toNat = (rd ltK dk x y lim wb wp).pivot := by omega
                        have g1_1b : (0 : Int) ≤ ((rd ltK dk x y lim wb wp).pivot : Int) := by omega
                        have g1_1c : ((rd ltK dk x y lim wb wp).pivot : Int) < (n : Int) := by omega
                        have g1_1d : IntKind.i64.wrap (((rd ltK dk x y lim wb wp).pivot : Int)) = ((rd ltK dk x y lim wb wp).pivot : Int) := by rw [IntKind.wrap_i64]; omega
                        have gx1 : (1 : Int) ≤ (x : Int) := by omega
                        have gx2 : (0 : Int) < (x : Int) := by omega
                        go_wp2_with fail
                        go_still_tail 13, (by kernel_rfl)
                        change wpList _ _ _ _ _ wc.drew
                        have TD1 := hAt5.out.drewN 1
                        change Tn _ _ _ wc.drew at TD1
                        generalize wc.drew = wd1 at TD1 ⊢
                        clear ca1 cb1 cc1 cd1 g1_0a g1_0b g1_0c g1_0d g1_1a g1_1b g1_1c g1_1d
                        go_wp2_with fail
                        refine (hc1.out wd1).mono ?_
                        rintro e _ ⟨z1, rfl, hz1, o1, o1', rfl⟩
                        have T6 := aside ((TD1.alloc o1).alloc o1')
                        generalize (wd1.alloc o1).alloc o1' = w6 at T6 ⊢
                        clear TD1 hc1 o1 o1'
                        have hd1 : decide (z1 < 0) = true := decide_eq_true (by omega)
                        go_wp2_with fail
                        go_meet
                        case rel => exact ⟨by simp [HV.out], T6⟩
                      | false =>
                        have HV := aside hlv
                        clear hlv
                        obtain ⟨x2, x2', y2, y2', ca2, cb2, cc2, cd2, hc2⟩ := cmpF hAt5.out z3.out (x - 1) ((rd ltK dk x y lim wb wp).pivot) (by omega) (by omega) HV.out
                        have g2_0a : ((x : Int) - 1).toNat = x - 1 := by omega
                        have g2_0b : (0 : Int) ≤ (x : Int) - 1 := by omega
                        have g2_0c : (x : Int) - 1 < (n : Int) := by omega
                        have g2_0d : IntKind.i64.wrap ((x : Int) - 1) = (x : Int) - 1 := by rw [IntKind.wrap_i64]; omega
                        have g2_1a : (((rd ltK dk x y lim wb wp).pivot : Int)).toNat = (rd ltK dk x y lim wb wp).pivot := by omega
                        have g2_1b : (0 : Int) ≤ ((rd ltK dk x y lim wb wp).pivot : Int) := by omega
                        have g2_1c : ((rd ltK dk x y lim wb wp).pivot : Int) < (n : Int) := by omega
                        have g2_1d : IntKind.i64.wrap (((rd ltK dk x y lim wb wp).pivot : Int)) = ((rd ltK dk x y lim wb wp).pivot : Int) := by rw [IntKind.wrap_i64]; omega
                        have gx1 : (1 : Int) ≤ (x : Int) := by omega
                        have gx2 : (0 : Int) < (x : Int) := by omega
                        go_wp2_with fail
                        go_still_tail 13, (by kernel_rfl)
                        change wpList _ _ _ _ _ wc.drew
                        have TD2 := hAt5.out.drewN 1
                        change Tn _ _ _ wc.drew at TD2
                        generalize wc.drew = wd2 at TD2 ⊢
                        clear ca2 cb2 cc2 cd2 g2_0a g2_0b g2_0c g2_0d g2_1a g2_1b g2_1c g2_1d
                        go_wp2_with fail
                        refine (hc2.out wd2).mono ?_
                        rintro e _ ⟨z2, rfl, hz2, o2, o2', rfl⟩
                        have T6 := aside ((TD2.alloc o2).alloc o2')
                        generalize (wd2.alloc o2).alloc o2' = w6 at T6 ⊢
                        clear TD2 hc2 o2 o2'
                        have hd2 : decide (z2 < 0) = false := decide_eq_false (by omega)
                        go_wp2_with fail
                        go_meet
                        case rel => exact ⟨by simp [ha0, HV.out], T6⟩
                  case rest =>
                    obtain ⟨rfl, hAt6⟩ := hcut
                    clear hAt5
                    cases h87 : (decide (x > 0) && !ltK (rd ltK dk x y lim wb wp).pi.1[x - 1]! (rd ltK dk x y lim wb wp).pi.1[(rd ltK dk x y lim wb wp).pivot]!)
                    · obtain ⟨mid, ap, d4, hx⟩ : ∃ mid ap d4, partition ltK (rd ltK dk x y lim wb wp).pi.1 x y (rd ltK dk x y lim wb wp).pivot = (mid, ap, d4) := ⟨(partition ltK (rd ltK dk x y lim wb wp).pi.1 x y (rd ltK dk x y lim wb wp).pivot).1, (partition ltK (rd ltK dk x y lim wb wp).pi.1 x y (rd ltK dk x y lim wb wp).pivot).2.1, (partition ltK (rd ltK dk x y lim wb wp).pi.1 x y (rd ltK dk x y lim wb wp).pivot).2.2, rfl⟩
                      obtain ⟨r1, r2, r3, r4, r5, r6, r7⟩ := round_part swoK (partition_holds ltK) hpv1 hpv2 (show y ≤ (rd ltK dk x y lim wb wp).pi.1.size by rw [z3.out]; exact hyn) B3.out hx
                      have hc := tpartition_at (c1 := c1) hAt6.out z3.out hn x y (rd ltK dk x y lim wb wp).pivot hpv1 hpv2 hyn rfl rfl rfl
                      rw [hx] at hc
                      have X := aside hx
                      have HC := aside hc
                      have z4 := aside (r3.trans z3.out)
                      have R4 := aside r4
                      have R5 := aside r5
                      have R6 := aside r6
                      have R7 := aside r7
                      clear hx hc r3 r4 r5 r6 r7
                      go_upto_if 125 with (go_at_call 112; refine HC.out.mono ?_; rintro e w7 ⟨rfl, hAt7, -⟩)
                      by_cases h4 : mid - x < y - mid
                      · have h4z : (mid : Int) - (x : Int) < (y : Int) - (mid : Int) := by omega
                        obtain ⟨pL, sL⟩ := pdq_sorts ltK swoK d4 x mid (rd ltK dk x y lim wb wp).lim true true (by omega) (by rw [z4.out]; omega) R4.out
                        have hih := aside (tpost (IH.out x mid (rd ltK dk x y lim wb wp).lim d4 w7 (by omega) hAt7.out.self z4.out (by omega) (by omega) (by omega) R4.out) hAt7.out pL.1)
                        have PL := aside pL
                        have SL := aside sL
                        clear pL sL
                        go_wp2_with fail
                        refine hih.out.mono ?_
                        rintro e w8 ⟨rfl, T8, -⟩
                        go_wp2_with fail
                        go_roundg (y - (mid + 1))
                        case measure => omega
                        case rel =>
                          refine ⟨mid + 1, y, (rd ltK dk x y lim wb wp).lim, decide (mid - x ≥ (y - x) / 8), ap, pdq ltK d4 x mid (rd ltK dk x y lim wb wp).lim true true, by simp, rfl, rfl, ?_, rfl, by omega, by omega, Nat.le_refl _, by omega, by omega, PL.out.1.trans z4.out, (R6.out _ PL.out SL.out).1, T8, ?_⟩
                          · exact congrArg Value.bool (eighth (by omega) (by omega))
                          · show _ = _
                            have hx := X.out
                            rw [← A.out, pdq_left h12 hl0 HP2.out h87 (by rw [hx]; exact ⟨r1, r2⟩) (by rw [hx]; exact h4), hx]
                      · have h4z : ¬ ((mid : Int) - (x : Int) < (y : Int) - (mid : Int)) := by omega
                        obtain ⟨pL, sL⟩ := pdq_sorts ltK swoK d4 (mid + 1) y (rd ltK dk x y lim wb wp).lim true true (by omega) (by rw [z4.out]; omega) R5.out
                        have hih0 := tpost (IH.out (mid + 1) y (rd ltK dk x y lim wb wp).lim d4 w7 (by omega) hAt7.out.self z4.out (by omega) (by omega) (by omega) R5.out) hAt7.out pL.1
                        rw [show ((mid + 1 : Nat) : Int) = (mid : Int) + 1 by omega] at hih0
                        have hih := aside hih0
                        have PL := aside pL
                        have SL := aside sL
                        clear pL sL hih0
                        go_wp2_with fail
                        refine hih.out.mono ?_
                        rintro e w8 ⟨rfl, T8, -⟩
                        go_wp2_with fail
                        go_roundg (mid - x)
                        case measure => omega
                        case rel =>
                          refine ⟨x, mid, (rd ltK dk x y lim wb wp).lim, decide (y - mid ≥ (y - x) / 8), ap, pdq ltK d4 (mid + 1) y (rd ltK dk x y lim wb wp).lim true true, rfl, rfl, rfl, ?_, rfl, by omega, by omega, Nat.le_refl _, by omega, by omega, PL.out.1.trans z4.out, (R7.out _ PL.out SL.out).1, T8, ?_⟩
                          · exact congrArg Value.bool (eighth (by omega) (by omega))
                          · show _ = _
                            have hx := X.out
                            rw [← A.out, pdq_right h12 hl0 HP2.out h87 (by rw [hx]; exact ⟨r1, r2⟩) (by rw [hx]; exact h4), hx]
                    · have h87' := h87
                      simp only [Bool.and_eq_true, decide_eq_true_eq, Bool.not_eq_true'] at h87'
                      obtain ⟨mid, d4, hx⟩ : ∃ mid d4, partitionEqual ltK (rd ltK dk x y lim wb wp).pi.1 x y (rd ltK dk x y lim wb wp).pivot = (mid, d4) := ⟨(partitionEqual ltK (rd ltK dk x y lim wb wp).pi.1 x y (rd ltK dk x y lim wb wp).pivot).1, (partitionEqual ltK (rd ltK dk x y lim wb wp).pi.1 x y (rd ltK dk x y lim wb wp).pivot).2, rfl⟩
                      obtain ⟨r1, r2, r3, r4, _⟩ := round_eq swoK (partitionEqual_holds ltK) h87'.1 hpv1 hpv2 (show y ≤ (rd ltK dk x y lim wb wp).pi.1.size by rw [z3.out]; exact hyn) B3.out h87'.2 hx
                      have hc := tpartitionEqual_at (c1 := c1) hAt6.out z3.out hn x y (rd ltK dk x y lim wb wp).pivot hpv1 hpv2 hyn rfl rfl rfl
                      rw [hx] at hc
                      have X := aside hx
                      have HC := aside hc
                      have z4 := aside (r3.trans z3.out)
                      have R4 := aside r4
                      clear hx hc r3 r4 h87'
                      go_wp2_with fail
                      refine HC.out.mono ?_
                      rintro e w7 ⟨rfl, T7, -⟩
                      go_wp2_with fail
                      go_roundg (y - mid)
                      case measure => omega
                      case rel =>
                        refine ⟨mid, y, (rd ltK dk x y lim wb wp).lim, wb, wp, d4, rfl, rfl, rfl, rfl, rfl, r2, hyn, Nat.le_refl _, by omega, by omega, z4, R4, T7, ?_⟩
                        show _ = _
                        have hx := X.out
                        rw [← A.out, pdq_eq h12 hl0 HP2.out h87 (by rw [hx]; exact ⟨r1, r2⟩), hx]
theorem tpdq_box (v : Value) (blk n : Nat) (hX : Box blk n v) (d : Array (Int × Int)) (w : World) (h : Tn blk d w w) (hs : d.size = n) (hn : n ≤ 4096) (a b limit : Nat) (hab : a ≤ b) (hb : b ≤ n) (hlim : limit ≤ 1000) (hB : Sort.Below ltK a b d) :
    Calls Try.prog 94 #[v, .int .i64 a, .int .i64 b, .int .i64 limit, .func (.func 82) #[] #[]] w fun e w' => e = .returned (.tuple #[]) ∧ Aside (Tn blk (pdq ltK d a b limit true true) w w') := by
  by_cases hz : n = 0
  · subst hz
    obtain rfl : b = 0 := by omega
    obtain rfl : a = 0 := by omega
    have hI := aside (insCmp_at v blk 0 hX d w h hs hn 0 0 (Nat.le_refl _) (Nat.le_refl _))
    rw [pdq_small (by omega)]
    clear h hs hB hX
    go_enter Try.func94, Try.ntmps94
    go_wp2_with fail
    refine wp_loop_rounds 1 ?_
    rw [rounds_succ]
    go_wp2_with fail
    refine hI.out.mono ?_
    rintro e w1 ⟨rfl, T1⟩
    go_wp2_with fail
    go_returns
    exact ⟨rfl, T1⟩
  · obtain ⟨c, rfl⟩ := box_some hX (by omega)
    exact tpdq_any hn (b - a + 1) a b limit d w (by omega) h hs hab hb hlim hB
end
end Go.Proofs.Ytaifmeajfldckaa
