/- sort's partialInsertionSort over an Interface value does what the plain one does. Conditions: a < b <= n. -/
import Derived.Test.YtaifmeajfldckaaPart

namespace Go.Proofs.Ytaifmeajfldckaa
open Go.RowKit Go.Sort Go.Proofs

section
variable {lt : (Int × Int) → (Int × Int) → Bool}
theorem pi_true' (a b s i : Nat) (d : Array (Int × Int)) (hs : s < 5) (hK : scanSorted lt d b i = b) : partialIns lt a b (5 - s) i d = (d, true) := by
  rw [show 5 - s = (4 - s) + 1 by omega, partialIns_succ, if_pos hK]
theorem pi_short' (a b s i : Nat) (d : Array (Int × Int)) (hs : s < 5) (hK : scanSorted lt d b i ≠ b) (h50 : b - a < 50) : partialIns lt a b (5 - s) i d = (d, false) := by
  rw [show 5 - s = (4 - s) + 1 by omega, partialIns_succ, if_neg hK, if_pos h50]
theorem pi_go' (a b s i k : Nat) (d : Array (Int × Int)) (hs : s < 5) (hK : scanSorted lt d b i = k) (hkb : k ≠ b) (h50 : ¬ b - a < 50) :
    partialIns lt a b (5 - s) i d = partialIns lt a b (5 - (s + 1)) k (fixUp lt b k (fixDown lt a k (swp d k (k - 1)))) := by
  rw [show 5 - s = (4 - s) + 1 by omega, partialIns_succ, hK, if_neg hkb, if_neg h50, show 5 - (s + 1) = 4 - s by omega]
theorem fixDown_size (a k : Nat) (d : Array (Int × Int)) : (fixDown lt a k d).size = d.size := by
  unfold fixDown
  split
  · exact Pl.shiftDown_size _ _
  · rfl
end

section
variable {lt : (Int × Int) → (Int × Int) → Bool} {T : TypeId} {rv : Value} {gl gs gn : Nat} {rl rs rn : Value} {blk n : Nat}

set_option maxHeartbeats 16000000 in
set_option maxRecDepth 100000 in
theorem partialInsertionSort_any (d : Array (Int × Int)) (w : World) (M : Meth lt T rv gl gs gn rl rs rn blk n w) (h : Tn blk d w w) (hs : d.size = n) (a b : Nat) (hab : a < b) (hb : b ≤ n) :
    Calls Try.prog 103 #[.iface T rv, .int .i64 a, .int .i64 b] w fun e w' => e = .returned (.bool (partialInsertionSort lt d a b).2) ∧ Tn blk (partialInsertionSort lt d a b).1 w w' := by
  have hn := M.hn
  have el := M.el
  have es := M.es
  have ml := M.ml
  have ms := M.ms
  have HM := aside M
  have H := aside h
  have HS := aside hs
  clear M h hs
  have HR : Aside (partialIns lt a b 5 (a + 1) d = partialInsertionSort lt d a b) := rfl
  generalize partialInsertionSort lt d a b = r at HR ⊢
  go_enter Try.func103, Try.ntmps103
  go_wp2_with fail
  go_loopg [7, 8] 5 (fun g1 vi vs wr => ∃ (i s : Nat) (dk : Array (Int × Int)), vi = .int .i64 i ∧ vs = .int .i64 s ∧ s ≤ 5 ∧ 5 - s ≤ g1 ∧ (a < i ∧ i ≤ b) ∧ Aside (dk.size = n) ∧ Aside (Tn blk dk w wr) ∧ Aside (partialIns lt a b (5 - s) i dk = partialIns lt a b 5 (a + 1) d))
  case atStart => exact ⟨a + 1, 0, d, by go_num, rfl, by omega, by omega, ⟨by omega, by omega⟩, HS, H, rfl⟩
  case round =>
    obtain ⟨i, s, dk, rfl, rfl, hs5', hg1, ⟨hai, hib⟩, hsk, hT, hO⟩ := hrel
    by_cases hs5 : s < 5
    · have hsz5 : (s : Int) < 5 := by omega
      go_upto_block 2 with (fail)
      go_cut [7] from 13 to 84 (fun vi wc => ∃ kx : Nat, vi = .int .i64 kx ∧ i ≤ kx ∧ kx ≤ b ∧ Aside (Tn blk dk w wc) ∧ Aside (scanSorted lt dk b i = kx))
      case first =>
        go_wp2_with fail
        go_loopg [7] (b - i) (fun g2 vi wr2 => ∃ kx : Nat, vi = .int .i64 kx ∧ i ≤ kx ∧ kx ≤ b ∧ b - kx ≤ g2 ∧ Aside (Tn blk dk w wr2) ∧ Aside (scanSorted lt dk b kx = scanSorted lt dk b i))
        case atStart => exact ⟨i, rfl, Nat.le_refl _, hib, Nat.le_refl _, hT, rfl⟩
        case round =>
          obtain ⟨kx, rfl, hik, hkb, hg2, hT2, HSc⟩ := hrel
          by_cases hkb' : kx < b
          · have hkz : (kx : Int) < (b : Int) := by omega
            cases hlv : lt dk[kx]! dk[kx - 1]! with
            | false =>
              have HV := aside hlv
              clear hlv
              have oo1 := hT2.out.on
              go_wp2_with fail
              refine (HM.out.lessAt hT2.out hsk.out (kx) (kx - 1) (by omega) (by omega) HV.out (by omega) (by omega)).mono ?_
              rintro e w1 ⟨rfl, T1, on1, -⟩
              go_wp2_with fail
              go_roundg (b - (kx + 1))
              case measure => omega
              case rel => exact ⟨kx + 1, by go_num, by omega, by omega, Nat.le_refl _, T1, by show _ = _; rw [← HSc.out, Pl.scanSorted_go dk b kx hkb' HV.out]⟩
            | true =>
              have HV := aside hlv
              clear hlv
              have oo2 := hT2.out.on
              go_wp2_with fail
              refine (HM.out.lessAt hT2.out hsk.out (kx) (kx - 1) (by omega) (by omega) HV.out (by omega) (by omega)).mono ?_
              rintro e w1 ⟨rfl, T1, on2, -⟩
              go_wp2_with fail
              go_meet
              case rel => exact ⟨kx, rfl, hik, hkb, T1, by show _ = _; rw [← HSc.out, Pl.scanSorted_stop dk b kx (.inr HV.out)]⟩
          · have hkz : ¬ (kx : Int) < (b : Int) := by omega
            have hkzd : decide (kx < b) = false := decide_eq_false hkb'
            have hkzd' : decide ((kx : Int) < (b : Int)) = false := decide_eq_false hkz
            go_wp2_with fail
            have T1 := hT2
            go_meet
            case rel => exact ⟨kx, rfl, hik, hkb, T1, by show _ = _; rw [← HSc.out, Pl.scanSorted_stop dk b kx (.inl hkb')]⟩
      case rest =>
        clear hT
        obtain ⟨kx, rfl, hik, hkb, hT, HK⟩ := hcut
        by_cases hkeq : kx = b
        · subst hkeq
          have hv := aside (HR.out.symm.trans (hO.out.symm.trans (pi_true' a kx s i dk hs5 HK.out)))
          go_wp2_with fail
          go_ret
          rw [hv.out]
          exact ⟨rfl, hT.out⟩
        · have hkne : ((kx : Int) == (b : Int)) = false := beq_eq_false_iff_ne.2 (by omega)
          by_cases h50 : b - a < 50
          · have h50z : (b : Int) - (a : Int) < 50 := by omega
            have hv := aside (HR.out.symm.trans (hO.out.symm.trans (pi_short' a b s i dk hs5 (by rw [HK.out]; exact hkeq) h50)))
            go_wp2_with fail
            go_ret
            rw [hv.out]
            exact ⟨rfl, hT.out⟩
          · have h50z : ¬ ((b : Int) - (a : Int) < 50) := by omega
            have oo3 := hT.out.on
            go_wp2_with fail
            refine (HM.out.swapAt hT.out hsk.out (kx) (kx - 1) (by omega) (by omega) (by omega) (by omega)).mono ?_
            rintro e ws3 ⟨rfl, T2, on3, -⟩
            have HX := aside ((size_swp dk kx (kx - 1)).trans hsk.out)
            go_upto_if 45 with (fail)
            go_cut [9] from 13 to 84 (fun _ wc => Aside (Tn blk (fixDown lt a kx (swp dk kx (kx - 1))) w wc))
            case first =>
              by_cases hka : kx - a ≥ 2
              · have hkaz : (2 : Int) ≤ (kx : Int) - (a : Int) := by omega
                have hkad : decide ((2 : Int) ≤ (kx : Int) - (a : Int)) = true := decide_eq_true hkaz
                rw [hkad]
                clear hkad
                go_wp2_with fail
                go_loopg [9] (kx - 1) (fun g3 vj wr3 => ∃ (j : Nat) (dj : Array (Int × Int)), vj = .int .i64 j ∧ j ≤ kx - 1 ∧ j ≤ g3 ∧ Aside (dj.size = n) ∧ Aside (Tn blk dj w wr3) ∧ Aside (shiftDown lt j dj = shiftDown lt (kx - 1) (swp dk kx (kx - 1))))
                case atStart => exact ⟨kx - 1, _, by congr 1; omega, Nat.le_refl _, Nat.le_refl _, HX, T2, rfl⟩
                case round =>
                  clear T2
                  obtain ⟨j, dj, rfl, hjk, hg3, hsj, hTj, HDn⟩ := hrel
                  by_cases hj1 : 1 ≤ j
                  · have hj1z : (1 : Int) ≤ (j : Int) := by omega
                    cases hlv2 : lt dj[j]! dj[j - 1]! with
                    | true =>
                      have HV2 := aside hlv2
                      clear hlv2
                      have oo4 := hTj.out.on
                      go_wp2_with fail
                      refine (HM.out.lessAt hTj.out hsj.out (j) (j - 1) (by omega) (by omega) HV2.out (by omega) (by omega)).mono ?_
                      rintro e w3 ⟨rfl, T3, on4, -⟩
                      go_wp2_with fail
                      have oo5 := T3.out.on
                      go_wp2_with fail
                      refine (HM.out.swapAt T3.out hsj.out (j) (j - 1) (by omega) (by omega) (by omega) (by omega)).mono ?_
                      rintro e ws5 ⟨rfl, T4, on5, -⟩
                      go_wp2_with fail
                      go_roundg (j - 1)
                      case measure => omega
                      case rel => exact ⟨j - 1, _, by congr 1; omega, by omega, Nat.le_refl _, (size_swp _ _ _).trans hsj.out, T4, by show _ = _; rw [← HDn.out, Pl.shiftDown_go j dj hj1 HV2.out]⟩
                    | false =>
                      have HV2 := aside hlv2
                      clear hlv2
                      have oo6 := hTj.out.on
                      go_wp2_with fail
                      refine (HM.out.lessAt hTj.out hsj.out (j) (j - 1) (by omega) (by omega) HV2.out (by omega) (by omega)).mono ?_
                      rintro e w3 ⟨rfl, T3, on6, -⟩
                      go_wp2_with fail
                      go_meet
                      case rel => show Tn _ _ _ _; rw [fixDown, if_pos hka, ← HDn.out, Pl.shiftDown_stop j dj (.inr HV2.out)]; exact T3.out
                  · have hj1z : ¬ (1 : Int) ≤ (j : Int) := by omega
                    go_wp2_with fail
                    go_meet
                    case rel => show Tn _ _ _ _; rw [fixDown, if_pos hka, ← HDn.out, Pl.shiftDown_stop j dj (.inl (by omega))]; exact hTj.out
              · have hkaz : ¬ (2 : Int) ≤ (kx : Int) - (a : Int) := by omega
                go_wp2_with fail
                go_meet
                case rel => show Tn _ _ _ _; rw [fixDown, if_neg hka]; exact T2.out
            case rest =>
              have hTD := hcut
              clear hcut T2
              have HFD := aside ((fixDown_size (lt := lt) a kx (swp dk kx (kx - 1))).trans HX.out)
              obtain ⟨D, hD⟩ : ∃ D, fixDown lt a kx (swp dk kx (kx - 1)) = D := ⟨_, rfl⟩
              rw [hD] at hTD HFD
              have HD := aside hD.symm
              clear hD
              by_cases hbk : b - kx ≥ 2
              · have hbkz : (2 : Int) ≤ (b : Int) - (kx : Int) := by omega
                go_wp2_with fail
                go_loopg [10] (b - (kx + 1)) (fun g4 vj wr4 => ∃ (y : Nat) (du : Array (Int × Int)), vj = .int .i64 y ∧ kx + 1 ≤ y ∧ y ≤ b ∧ b - y ≤ g4 ∧ Aside (du.size = n) ∧ Aside (Tn blk du w wr4) ∧ Aside (shiftUp lt b y du = shiftUp lt b (kx + 1) D))
                case atStart => exact ⟨kx + 1, D, by go_num, Nat.le_refl _, by omega, Nat.le_refl _, HFD, hTD, rfl⟩
                case round =>
                  obtain ⟨y, du, rfl, hky, hyb, hg4, hsu, hTu, HU⟩ := hrel
                  by_cases hyb' : y < b
                  · have hyz : (y : Int) < (b : Int) := by omega
                    cases hlv3 : lt du[y]! du[y - 1]! with
                    | true =>
                      have HV3 := aside hlv3
                      clear hlv3
                      have oo7 := hTu.out.on
                      go_wp2_with fail
                      refine (HM.out.lessAt hTu.out hsu.out (y) (y - 1) (by omega) (by omega) HV3.out (by omega) (by omega)).mono ?_
                      rintro e w5 ⟨rfl, T5, on7, -⟩
                      go_wp2_with fail
                      have oo8 := T5.out.on
                      go_wp2_with fail
                      refine (HM.out.swapAt T5.out hsu.out (y) (y - 1) (by omega) (by omega) (by omega) (by omega)).mono ?_
                      rintro e ws8 ⟨rfl, T6, on8, -⟩
                      go_wp2_with fail
                      go_roundg (b - (y + 1))
                      case measure => omega
                      case rel => exact ⟨y + 1, _, by go_num, by omega, by omega, Nat.le_refl _, (size_swp _ _ _).trans hsu.out, T6, by show _ = _; rw [← HU.out, Pl.shiftUp_go b y du hyb' HV3.out]⟩
                    | false =>
                      have HV3 := aside hlv3
                      clear hlv3
                      have oo9 := hTu.out.on
                      go_wp2_with fail
                      refine (HM.out.lessAt hTu.out hsu.out (y) (y - 1) (by omega) (by omega) HV3.out (by omega) (by omega)).mono ?_
                      rintro e w5 ⟨rfl, T5, on9, -⟩
                      go_wp2_with fail
                      go_roundg (5 - (s + 1))
                      case measure => omega
                      case rel => exact ⟨kx, s + 1, _, rfl, by go_num, by omega, by omega, by omega, hsu, T5, by show _ = _; rw [← hO.out, pi_go' a b s i kx dk hs5 HK.out (by omega) h50, ← HD.out]; rw [fixUp, if_pos hbk, ← HU.out, Pl.shiftUp_stop b y du (.inr HV3.out)]⟩
                  · have hyz : ¬ (y : Int) < (b : Int) := by omega
                    go_wp2_with fail
                    go_roundg (5 - (s + 1))
                    case measure => omega
                    case rel => exact ⟨kx, s + 1, _, rfl, by go_num, by omega, by omega, by omega, hsu, hTu, by show _ = _; rw [← hO.out, pi_go' a b s i kx dk hs5 HK.out (by omega) h50, ← HD.out]; rw [fixUp, if_pos hbk, ← HU.out, Pl.shiftUp_stop b y du (.inl hyb')]⟩
              · have hbkz : ¬ (2 : Int) ≤ (b : Int) - (kx : Int) := by omega
                go_wp2_with fail
                go_roundg (5 - (s + 1))
                case measure => omega
                case rel => exact ⟨kx, s + 1, _, rfl, by go_num, by omega, by omega, by omega, HFD, hTD, by show _ = _; rw [← hO.out, pi_go' a b s i kx dk hs5 HK.out (by omega) h50, ← HD.out]; rw [fixUp, if_neg hbk]⟩
    · obtain rfl : s = 5 := by omega
      have hv := aside (HR.out.symm.trans (hO.out.symm.trans (show partialIns lt a b (5 - 5) i dk = (dk, false) from rfl)))
      go_wp2_with fail
      go_ret
      rw [hv.out]
      exact ⟨rfl, hT.out⟩
theorem partialInsertionSort_at {w0 w : World} {d : Array (Int × Int)} (M : Meth lt T rv gl gs gn rl rs rn blk n w0) (h : Tn blk d w0 w) (hs : d.size = n) (a b : Nat) (hab : a < b) (hb : b ≤ n) {A B : Int} (eA : A = a) (eB : B = b) :
    Calls Try.prog 103 #[.iface T rv, .int .i64 A, .int .i64 B] w (Post blk (partialInsertionSort lt d a b).1 w0 w (.bool (partialInsertionSort lt d a b).2)) := by
  subst eA eB
  exact post_lift (partialInsertionSort_any d w (M.at_ h hs) h.self hs a b hab hb) h (Pl.partialInsertionSort_size _ _ _)
end
end Go.Proofs.Ytaifmeajfldckaa
