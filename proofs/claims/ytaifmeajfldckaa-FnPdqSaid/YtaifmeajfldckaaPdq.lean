/- sort's pdqsort over an Interface value does what the plain pdq does. Conditions: 0 <= a <= b <= n, no item ahead of the range is greater than one in it, less is a strict weak order, limit at most 1000. -/
import Derived.Test.YtaifmeajfldckaaIns
import Derived.Test.YtaifmeajfldckaaHeap
import Derived.Test.YtaifmeajfldckaaPart
import Derived.Test.YtaifmeajfldckaaPiv
import Derived.Test.YtaifmeajfldckaaRvr
import Derived.Test.YtaifmeajfldckaaPEq
import Derived.Test.YtaifmeajfldckaaPar
import Derived.Test.YtaifmeajfldckaaBrk
import Derived.Sort.Walk13
namespace Go.Proofs.Ytaifmeajfldckaa
open Go.RowKit Go.Sort Go.Proofs

section
variable {lt : (Int × Int) → (Int × Int) → Bool} {T : TypeId} {rv : Value} {gl gs gn : Nat} {rl rs rn : Value} {blk n : Nat}

set_option maxHeartbeats 16000000 in
set_option maxRecDepth 1000000 in
theorem pdq_any (hO : SWO lt) : ∀ (N a b limit : Nat) (d : Array (Int × Int)) (w : World), b - a < N → Meth lt T rv gl gs gn rl rs rn blk n w → Tn blk d w w → d.size = n → a ≤ b → b ≤ n → limit ≤ 1000 → Sort.Below lt a b d →
    Calls Try.prog 92 #[.iface T rv, .int .i64 a, .int .i64 b, .int .i64 limit] w fun e w' => e = .returned (.tuple #[]) ∧ Tn blk (pdq lt d a b limit true true) w w' := by
  intro N
  induction N with
  | zero => intro _ _ _ _ _ h; exact absurd h (Nat.not_lt_zero _)
  | succ N ih =>
    intro a b limit d w hN M h hs hab hb hlimit hBel0
    have hn := M.hn
    have el := M.el
    have ml := M.ml
    have HM := aside M
    have IH := aside ih
    have H0 := aside h
    have HS := aside hs
    have HB0 := aside hBel0
    clear M ih h hs hBel0
    go_enter Try.func92, Try.ntmps92
    go_wp2
    go_loopg [1, 2, 3, 8, 9] (b - a) (fun k s1 s2 s3 s8 s9 wr => ∃ (x y lim : Nat) (wb wp : Bool) (dk : Array (Int × Int)), s1 = .int .i64 x ∧ s2 = .int .i64 y ∧ s3 = .int .i64 lim ∧ s8 = .bool wb ∧ s9 = .bool wp ∧
      x ≤ y ∧ y ≤ n ∧ y - x ≤ k ∧ k ≤ b - a ∧ lim ≤ limit ∧ Aside (dk.size = n) ∧ Aside (Sort.Below lt x y dk) ∧ Aside (Tn blk dk w wr) ∧ Aside (pdq lt dk x y lim wb wp = pdq lt d a b limit true true))
    case atStart => exact ⟨a, b, limit, true, true, d, rfl, rfl, rfl, rfl, rfl, hab, hb, Nat.le_refl _, Nat.le_refl _, Nat.le_refl _, HS, HB0, H0, rfl⟩
    case round =>
      obtain ⟨x, y, lim, wb, wp, dk, rfl, rfl, rfl, rfl, rfl, hxy, hyn, hk, hkN, hlim, hds, hBel, hAt, A⟩ := hrel
      have o0 := hAt.out.on
      by_cases h12 : y - x ≤ 12
      · have h12z : (y : Int) - (x : Int) ≤ 12 := by omega
        go_wp2_with fail
        refine (insertionSort_at HM.out hAt.out hds.out x y hxy hyn (by omega) (by omega)).mono ?_
        rintro e w1 ⟨rfl, T1, o1, -⟩
        go_wp2_with fail
        go_returns
        exact ⟨rfl, by rw [← A.out, pdq_small h12]; exact T1.out⟩
      · have h12z : ¬ ((y : Int) - (x : Int) ≤ 12) := by omega
        by_cases hl0 : lim = 0
        · subst hl0
          go_wp2_with fail
          refine (heapSort_at HM.out hAt.out hds.out x y hxy hyn (by omega) (by omega)).mono ?_
          rintro e w1 ⟨rfl, T1, o1, -⟩
          go_wp2_with fail
          go_returns
          exact ⟨rfl, by rw [← A.out, pdq_heap h12 rfl]; exact T1.out⟩
        · have hl0z : ¬ ((lim : Int) = 0) := by omega
          obtain ⟨s1, B1, hc1, s2, B2, hpv, s3, B3⟩ := rd_facts (lt := lt) (limit := lim) (wb := wb) (wp := wp) hO partialInsertionSort_holds reverseRange_holds (show x < y by omega) (show y ≤ dk.size by rw [hds.out]; omega) hBel.out
          have z1 := aside (s1.trans hds.out)
          have z2 := aside (s2.trans hds.out)
          have z3 := aside (s3.trans hds.out)
          have B3 := aside B3
          have hlr : (rd lt dk x y lim wb wp).lim ≤ lim := rd_lim_le
          obtain ⟨hpv1, hpv2⟩ := hpv
          obtain ⟨hc1, hc2⟩ := hc1
          have HC1 := aside (And.intro hc1 hc2)
          clear s1 s2 s3 B1 B2
          go_upto_if 35 with (fail)
          go_cut [3] from 19 (fun v3 wc => v3 = .int .i64 (rd lt dk x y lim wb wp).lim ∧ Aside (Tn blk (rd lt dk x y lim wb wp).d1 w wc))
          case first =>
            cases wb
            · go_wp2_with fail
              refine (breakPatterns_at HM.out hAt.out hds.out x y hxy hyn (by omega) (by omega)).mono ?_
              rintro e w1 ⟨rfl, T1, o1, -⟩
              go_wp2_with fail
              go_meet
              case rel =>
                refine ⟨?_, T1⟩
                show Value.int .i64 ((lim : Int) - 1) = Value.int .i64 ((lim - 1 : Nat) : Int)
                congr 1
                omega
            · go_wp2_with fail
              go_meet
              case rel => exact ⟨rfl, hAt⟩
          case rest =>
            obtain ⟨rfl, hAt1⟩ := hcut
            have o1 := hAt1.out.on
            have hcp : Calls Try.prog 101 #[.iface T rv, .int .i64 x, .int .i64 y] wc (Post blk (rd lt dk x y lim wb wp).d1 w wc (.tuple #[.int .i64 (rd lt dk x y lim wb wp).c.1, .int .i64 (hintCode (rd lt dk x y lim wb wp).c.2)])) :=
              choosePivot_at HM.out hAt1.out z1.out x y (by omega) hyn rfl rfl
            go_upto_if 50 with (go_at_call 101; refine hcp.mono ?_; rintro e w2 ⟨rfl, hAt2, o2, -⟩)
            go_cut [11, 12] from 19 (fun v11 v12 wc => v11 = .int .i64 (rd lt dk x y lim wb wp).pivot ∧ v12 = .int .i64 (hintCode (rd lt dk x y lim wb wp).hint) ∧ Aside (Tn blk (rd lt dk x y lim wb wp).d2 w wc))
            case first =>
              by_cases hh : (rd lt dk x y lim wb wp).c.2 = .decreasing
              · have hcode : hintCode (rd lt dk x y lim wb wp).c.2 = 2 := by rw [hh]; rfl
                obtain ⟨e2, epv, eht⟩ := rd_dec hh
                have E2 := aside e2
                have EPV := aside epv
                have EHT := aside eht
                clear hh e2 epv eht
                go_wp2_with fail
                refine (reverseRange_at HM.out hAt2.out z1.out x y (by omega) hyn (by omega) (by omega)).mono ?_
                rintro e w3 ⟨rfl, T3, o3, -⟩
                go_wp2_with fail
                go_meet
                case rel =>
                  refine ⟨?_, by rw [EHT.out]; rfl, by rw [E2.out]; exact T3⟩
                  rw [EPV.out]
                  congr 1
                  omega
              · have hcode : ¬ (hintCode (rd lt dk x y lim wb wp).c.2 = 2) := fun h => hh (hintCode_two h)
                obtain ⟨e2, epv, eht⟩ := rd_not hh
                have E2 := aside e2
                have EPV := aside epv
                have EHT := aside eht
                clear hh e2 epv eht
                go_wp2_with fail
                go_meet
                case rel => exact ⟨by rw [EPV.out], by rw [EHT.out], by rw [E2.out]; exact hAt2⟩
            case rest =>
              obtain ⟨rfl, rfl, hAt3⟩ := hcut
              clear hAt1 hAt2 o1 o2
              have o3 := hAt3.out.on
              go_upto_region 15 with (fail)
              go_cut [12, 68] from 19 (fun v12 v68 wx => v12 = .int .i64 (hintCode (rd lt dk x y lim wb wp).hint) ∧ v68 = .bool (wb && wp && decide ((rd lt dk x y lim wb wp).hint = .increasing)) ∧ wx = wc)
              case first =>
                cases wb <;> cases wp <;> cases hh3 : (rd lt dk x y lim _ _).hint <;>
                  (have hcode3 := congrArg hintCode hh3
                   simp only [hintCode] at hcode3
                   go_wp2_with fail
                   go_meet
                   exact ⟨by simp [hh3, hintCode], by simp [hh3, hintCode], rfl⟩)
              case rest =>
                obtain ⟨rfl, rfl, hwx⟩ := hcut
                obtain rfl := hwx.symm
                go_upto_if 68 with (fail)
                go_cut [12] from 19 (fun v12 wx => v12 = .int .i64 (hintCode (rd lt dk x y lim wb wp).hint) ∧ Aside ((rd lt dk x y lim wb wp).pi.2 = false) ∧ Aside (Tn blk (rd lt dk x y lim wb wp).pi.1 w wx))
                case first =>
                  cases h68 : (wb && wp && decide ((rd lt dk x y lim wb wp).hint = .increasing))
                  · have EPI := aside (rd_pi_no h68)
                    go_wp2_with fail
                    go_meet
                    case rel => exact ⟨rfl, by rw [EPI.out]; exact rfl, by rw [EPI.out]; exact hAt3⟩
                  · have epi := rd_pi_yes h68
                    have hc := partialInsertionSort_at HM.out hAt3.out z2.out x y (by omega) hyn rfl rfl
                    rw [← epi] at hc
                    have HC := aside hc
                    clear epi hc
                    cases hp2 : (rd lt dk x y lim wb wp).pi.2 with
                    | false =>
                      rw [hp2] at HC
                      have HP2 := aside hp2
                      clear hp2
                      go_wp2_with fail
                      refine HC.out.mono ?_
                      rintro e w4 ⟨rfl, T4, o4, -⟩
                      go_wp2_with fail
                      go_meet
                      case rel => exact ⟨rfl, HP2, T4⟩
                    | true =>
                      rw [hp2] at HC
                      have HP2 := aside hp2
                      clear hp2
                      go_wp2_with fail
                      refine HC.out.mono ?_
                      rintro e w4 ⟨rfl, T4, o4, -⟩
                      go_wp2_with fail
                      go_returns
                      exact ⟨rfl, by rw [← A.out, pdq_done h12 hl0 HP2.out]; exact T4.out⟩
                case rest =>
                  obtain ⟨rfl, HP2, hAt5⟩ := hcut
                  clear hAt3 o3
                  have o5 := hAt5.out.on
                  go_upto_region 17 with (fail)
                  go_cut [82] from 19 (fun v82 wx => v82 = .bool (decide (x > 0) && !lt (rd lt dk x y lim wb wp).pi.1[x - 1]! (rd lt dk x y lim wb wp).pi.1[(rd lt dk x y lim wb wp).pivot]!) ∧ Aside (Tn blk (rd lt dk x y lim wb wp).pi.1 w wx))
                  case first =>
                    rcases Nat.eq_zero_or_pos x with ha0 | ha0
                    · have ha0z : decide ((x : Int) > 0) = false := decide_eq_false (by omega)
                      have HA0 := aside ha0
                      have hn0d : decide (0 < x) = false := decide_eq_false (by omega)
                      have hn0z : decide ((0 : Int) < (x : Int)) = false := decide_eq_false (by omega)
                      have hn0 : ¬ (0 : Int) < (x : Int) := by omega
                      clear ha0
                      go_wp2_with fail
                      go_meet
                      case rel => exact ⟨by simp [HA0.out], hAt5⟩
                    · have ha0z : (x : Int) > 0 := by omega
                      cases hlv : lt (rd lt dk x y lim wb wp).pi.1[x - 1]! (rd lt dk x y lim wb wp).pi.1[(rd lt dk x y lim wb wp).pivot]! with
                      | true =>
                        have HV := aside hlv
                        clear hlv
                        go_wp2_with fail
                        refine (HM.out.lessAt hAt5.out z3.out (x - 1) (rd lt dk x y lim wb wp).pivot (by omega) (by omega) HV.out (by omega) rfl).mono ?_
                        rintro e w6 ⟨rfl, T6, o6, -⟩
                        go_wp2_with fail
                        go_meet
                        case rel => exact ⟨by simp [HV.out], T6⟩
                      | false =>
                        have HV := aside hlv
                        clear hlv
                        go_wp2_with fail
                        refine (HM.out.lessAt hAt5.out z3.out (x - 1) (rd lt dk x y lim wb wp).pivot (by omega) (by omega) HV.out (by omega) rfl).mono ?_
                        rintro e w6 ⟨rfl, T6, o6, -⟩
                        go_wp2_with fail
                        go_meet
                        case rel => exact ⟨by simp [ha0, HV.out], T6⟩
                  case rest =>
                    obtain ⟨rfl, hAt6⟩ := hcut
                    clear hAt5 o5
                    have o6 := hAt6.out.on
                    cases h87 : (decide (x > 0) && !lt (rd lt dk x y lim wb wp).pi.1[x - 1]! (rd lt dk x y lim wb wp).pi.1[(rd lt dk x y lim wb wp).pivot]!)
                    · obtain ⟨mid, ap, d4, hx⟩ : ∃ mid ap d4, partition lt (rd lt dk x y lim wb wp).pi.1 x y (rd lt dk x y lim wb wp).pivot = (mid, ap, d4) := ⟨(partition lt (rd lt dk x y lim wb wp).pi.1 x y (rd lt dk x y lim wb wp).pivot).1, (partition lt (rd lt dk x y lim wb wp).pi.1 x y (rd lt dk x y lim wb wp).pivot).2.1, (partition lt (rd lt dk x y lim wb wp).pi.1 x y (rd lt dk x y lim wb wp).pivot).2.2, rfl⟩
                      obtain ⟨r1, r2, r3, r4, r5, r6, r7⟩ := round_part hO (partition_holds lt) hpv1 hpv2 (show y ≤ (rd lt dk x y lim wb wp).pi.1.size by rw [z3.out]; exact hyn) B3.out hx
                      have hc := partition_at HM.out hAt6.out z3.out x y (rd lt dk x y lim wb wp).pivot hpv1 hpv2 hyn rfl rfl rfl
                      rw [hx] at hc
                      have X := aside hx
                      have HC := aside hc
                      have z4 := aside (r3.trans z3.out)
                      have R4 := aside r4
                      have R5 := aside r5
                      have R6 := aside r6
                      have R7 := aside r7
                      clear hx hc r3 r4 r5 r6 r7
                      go_upto_if 108 with (go_at_call 78; refine HC.out.mono ?_; rintro e w7 ⟨rfl, hAt7, o7, -⟩)
                      by_cases h4 : mid - x < y - mid
                      · have h4z : (mid : Int) - (x : Int) < (y : Int) - (mid : Int) := by omega
                        obtain ⟨pL, sL⟩ := pdq_sorts lt hO d4 x mid (rd lt dk x y lim wb wp).lim true true (by omega) (by rw [z4.out]; omega) R4.out
                        have hih := aside (post_lift (IH.out x mid (rd lt dk x y lim wb wp).lim d4 w7 (by omega) (HM.out.at_ hAt7.out z4.out) hAt7.out.self z4.out (by omega) (by omega) (by omega) R4.out) hAt7.out pL.1)
                        have PL := aside pL
                        have SL := aside sL
                        clear pL sL
                        go_wp2_with fail
                        refine hih.out.mono ?_
                        rintro e w8 ⟨rfl, T8, o8, -⟩
                        go_wp2_with fail
                        go_roundg (y - (mid + 1))
                        case measure => omega
                        case rel =>
                          refine ⟨mid + 1, y, (rd lt dk x y lim wb wp).lim, decide (mid - x ≥ (y - x) / 8), ap, pdq lt d4 x mid (rd lt dk x y lim wb wp).lim true true, by simp, rfl, rfl, ?_, rfl, by omega, by omega, Nat.le_refl _, by omega, by omega, PL.out.1.trans z4.out, (R6.out _ PL.out SL.out).1, T8, ?_⟩
                          · exact congrArg Value.bool (eighth (by omega) (by omega))
                          · show _ = _
                            have hx := X.out
                            rw [← A.out, pdq_left h12 hl0 HP2.out h87 (by rw [hx]; exact ⟨r1, r2⟩) (by rw [hx]; exact h4), hx]
                      · have h4z : ¬ ((mid : Int) - (x : Int) < (y : Int) - (mid : Int)) := by omega
                        obtain ⟨pL, sL⟩ := pdq_sorts lt hO d4 (mid + 1) y (rd lt dk x y lim wb wp).lim true true (by omega) (by rw [z4.out]; omega) R5.out
                        have hih0 := post_lift (IH.out (mid + 1) y (rd lt dk x y lim wb wp).lim d4 w7 (by omega) (HM.out.at_ hAt7.out z4.out) hAt7.out.self z4.out (by omega) (by omega) (by omega) R5.out) hAt7.out pL.1
                        rw [show ((mid + 1 : Nat) : Int) = (mid : Int) + 1 by omega] at hih0
                        have hih := aside hih0
                        have PL := aside pL
                        have SL := aside sL
                        clear pL sL hih0
                        go_wp2_with fail
                        refine hih.out.mono ?_
                        rintro e w8 ⟨rfl, T8, o8, -⟩
                        go_wp2_with fail
                        go_roundg (mid - x)
                        case measure => omega
                        case rel =>
                          refine ⟨x, mid, (rd lt dk x y lim wb wp).lim, decide (y - mid ≥ (y - x) / 8), ap, pdq lt d4 (mid + 1) y (rd lt dk x y lim wb wp).lim true true, rfl, rfl, rfl, ?_, rfl, by omega, by omega, Nat.le_refl _, by omega, by omega, PL.out.1.trans z4.out, (R7.out _ PL.out SL.out).1, T8, ?_⟩
                          · exact congrArg Value.bool (eighth (by omega) (by omega))
                          · show _ = _
                            have hx := X.out
                            rw [← A.out, pdq_right h12 hl0 HP2.out h87 (by rw [hx]; exact ⟨r1, r2⟩) (by rw [hx]; exact h4), hx]
                    · have h87' := h87
                      simp only [Bool.and_eq_true, decide_eq_true_eq, Bool.not_eq_true'] at h87'
                      obtain ⟨mid, d4, hx⟩ : ∃ mid d4, partitionEqual lt (rd lt dk x y lim wb wp).pi.1 x y (rd lt dk x y lim wb wp).pivot = (mid, d4) := ⟨(partitionEqual lt (rd lt dk x y lim wb wp).pi.1 x y (rd lt dk x y lim wb wp).pivot).1, (partitionEqual lt (rd lt dk x y lim wb wp).pi.1 x y (rd lt dk x y lim wb wp).pivot).2, rfl⟩
                      obtain ⟨r1, r2, r3, r4, _⟩ := round_eq hO (partitionEqual_holds lt) h87'.1 hpv1 hpv2 (show y ≤ (rd lt dk x y lim wb wp).pi.1.size by rw [z3.out]; exact hyn) B3.out h87'.2 hx
                      have hc := partitionEqual_at HM.out hAt6.out z3.out x y (rd lt dk x y lim wb wp).pivot hpv1 hpv2 hyn rfl rfl rfl
                      rw [hx] at hc
                      have X := aside hx
                      have HC := aside hc
                      have z4 := aside (r3.trans z3.out)
                      have R4 := aside r4
                      clear hx hc r3 r4 h87'
                      go_wp2_with fail
                      refine HC.out.mono ?_
                      rintro e w7 ⟨rfl, T7, o7, -⟩
                      go_wp2_with fail
                      go_roundg (y - mid)
                      case measure => omega
                      case rel =>
                        refine ⟨mid, y, (rd lt dk x y lim wb wp).lim, wb, wp, d4, rfl, rfl, rfl, rfl, rfl, r2, hyn, Nat.le_refl _, by omega, by omega, z4, R4, T7, ?_⟩
                        show _ = _
                        have hx := X.out
                        rw [← A.out, pdq_eq h12 hl0 HP2.out h87 (by rw [hx]; exact ⟨r1, r2⟩), hx]
theorem pdq_size (hO : SWO lt) {d : Array (Int × Int)} {a b : Nat} (limit : Nat) (hab : a ≤ b) (hb : b ≤ d.size) (hB : Sort.Below lt a b d) : (pdq lt d a b limit true true).size = d.size := (pdq_sorts lt hO d a b limit true true hab hb hB).1.1
theorem pdq_at {w0 w : World} {d : Array (Int × Int)} (M : Meth lt T rv gl gs gn rl rs rn blk n w0) (hO : SWO lt) (h : Tn blk d w0 w) (hs : d.size = n) (a b limit : Nat) (hab : a ≤ b) (hb : b ≤ n) (hlim : limit ≤ 1000) (hB : Sort.Below lt a b d) {A B K : Int} (eA : A = a) (eB : B = b) (eK : K = limit) :
    Calls Try.prog 92 #[.iface T rv, .int .i64 A, .int .i64 B, .int .i64 K] w (Post blk (pdq lt d a b limit true true) w0 w (.tuple #[])) := by
  subst eA eB eK
  exact post_lift (pdq_any hO (b - a + 1) a b limit d w (by omega) (M.at_ h hs) h.self hs hab hb hlim hB) h (pdq_size hO limit hab (by omega) hB)
end
end Go.Proofs.Ytaifmeajfldckaa
