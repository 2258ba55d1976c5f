/- The walk of the law FnTwinMerge: both twins merge to the same, and rotate to the same. It returns true for every input, and leaves all that lay there as it was. No condition. -/
import Derived.Test.YtaifmeajfldckaaWMer
import Derived.Test.YtaifmeajfldckaaWRot
import Derived.Test.YtaifmeajfldckaaWTwMer
import Derived.Test.YtaifmeajfldckaaWTwRot
import Derived.Test.YtaifmeajfldckaaSortKeys
namespace Go.Proofs.Ytaifmeajfldckaa
open Go.RowKit Go.Sort Go.Proofs

set_option maxHeartbeats 4000000 in
theorem lawFnTwinMerge (v : Value) (d : Array (Int × Int)) (w : World) (hv : Lst w w.heap.size v d) (a : Int) (m : Int) (b : Int) (_wa : (Lit.int .i64 a).wf = true) (_wm : (Lit.int .i64 m).wf = true) (_wb : (Lit.int .i64 b).wf = true) :
    Calls Try.prog 14 #[v, .int .i64 a, .int .i64 m, .int .i64 b] w fun e w' => e = .returned (.bool true) ∧ Below w.heap.size w w' := by
  have HV := aside hv
  obtain ⟨A, c, rfl, hc, hm, _⟩ := hv
  by_cases hr : 0 ≤ a ∧ a ≤ b ∧ b ≤ d.size ∧ d.size ≤ 4096
  · obtain ⟨h1, h2, h3, hn⟩ := hr
    obtain ⟨a, rfl⟩ := Int.eq_ofNat_of_zero_le h1
    obtain ⟨b, rfl⟩ := Int.eq_ofNat_of_zero_le (Int.le_trans h1 h2)
    have hab : a ≤ b := by omega
    have hbn : b ≤ d.size := by omega
    have hR := itemRange_yes A d.size c a b w h1 h2 h3 hn
    have g1 : ¬ (2147483647 : Int) < (d.size : Int) := by omega
    clear h1 h2 h3
    by_cases ham : (a : Int) ≥ m
    · go_enter Try.func14, Try.ntmps14
      go_wp2_with fail
      refine hR.mono ?_
      rintro e w' ⟨rfl, hw⟩
      obtain rfl : w = w' := hw.symm
      clear hR
      go_wp2_with fail
      go_ret
      exact ⟨rfl, Below.refl _ _⟩
    · by_cases hmb : m ≥ (b : Int)
      · go_enter Try.func14, Try.ntmps14
        go_wp2_with fail
        refine hR.mono ?_
        rintro e w' ⟨rfl, hw⟩
        obtain rfl : w = w' := hw.symm
        clear hR
        go_wp2_with fail
        go_ret
        exact ⟨rfl, Below.refl _ _⟩
      · obtain ⟨m, rfl⟩ := Int.eq_ofNat_of_zero_le (show 0 ≤ m by omega)
        have ham' : a < m := by omega
        have hmb' : m < b := by omega
        have b5 : (b : Int) ≤ (c : Int) := by omega
        have b6 : (m : Int) ≤ (c : Int) := by omega
        have b7 : (a : Int) ≤ (m : Int) := by omega
        have b2 : (m : Int) ≤ (b : Int) := by omega
        have b8 : ¬ c = m := by omega
        have b9 : ¬ c = a := by omega
        have L1 := aside ((HV.out.cut2 rfl a m (by omega) (by omega)).2 b9)
        have L2 := aside ((HV.out.cut2 rfl m b (by omega) hbn).2 b8)
        have z1 : (d.extract a m).size ≤ 4096 := by simp; omega
        have z2 : (d.extract m b).size ≤ 4096 := by simp; omega
        have Z1 := aside z1
        have Z2 := aside z2
        clear z1 z2
        cases o1 : inOrder ltK (d.extract a m) with
        | false =>
          have O1 := aside o1
          clear o1
          go_enter Try.func14, Try.ntmps14
          go_wp2_with fail
          refine hR.mono ?_
          rintro e w' ⟨rfl, hw⟩
          obtain rfl : w = w' := hw.symm
          clear hR
          go_wp2_with fail
          refine (sortedKeys_any _ _ w _ L1.out (Nat.le_refl _) Z1.out).mono ?_
          rw [O1.out]
          rintro e w1 ⟨rfl, hb1⟩
          go_wp2_with fail
          go_ret
          exact ⟨rfl, hb1⟩
        | true =>
          have O1 := aside o1
          clear o1
          cases o2 : inOrder ltK (d.extract m b) with
          | false =>
            have O2 := aside o2
            clear o2
            go_enter Try.func14, Try.ntmps14
            go_wp2_with fail
            refine hR.mono ?_
            rintro e w' ⟨rfl, hw⟩
            obtain rfl : w = w' := hw.symm
            clear hR
            go_wp2_with fail
            refine (sortedKeys_any _ _ w _ L1.out (Nat.le_refl _) Z1.out).mono ?_
            rw [O1.out]
            rintro e w1 ⟨rfl, hb1⟩
            go_wp2_with fail
            refine (sortedKeys_any _ _ w1 _ (L2.out.below hb1) hb1.size Z2.out).mono ?_
            rw [O2.out]
            rintro e w2 ⟨rfl, hb2⟩
            go_wp2_with fail
            go_ret
            exact ⟨rfl, hb1.trans (hb2.mono hb1.size)⟩
          | true =>
            have O2 := aside o2
            clear o2
            go_enter Try.func14, Try.ntmps14
            go_wp2_with fail
            refine hR.mono ?_
            rintro e w' ⟨rfl, hw⟩
            obtain rfl : w = w' := hw.symm
            clear hR
            go_wp2_with fail
            refine (sortedKeys_any _ _ w _ L1.out (Nat.le_refl _) Z1.out).mono ?_
            rw [O1.out]
            rintro e w1 ⟨rfl, hb1⟩
            go_wp2_with fail
            refine (sortedKeys_any _ _ w1 _ (L2.out.below hb1) hb1.size Z2.out).mono ?_
            rw [O2.out]
            rintro e w2 ⟨rfl, hb2⟩
            have hb12 := hb1.trans (hb2.mono hb1.size)
            clear hb1 hb2
            go_wp2_with fail
            refine (iMer_any _ d w2 w.heap.size (HV.out.below hb12) hb12.size hn a m b ham' hmb' hbn).mono ?_
            rintro e w3 ⟨v1, rfl, hl1, hb3⟩
            have hb13 := hb12.trans (hb3.mono hb12.size)
            have hrs : (Pl.symMerge ltK (b - a) d a m b).size = d.size := symMerge_size _ _ _ _ _ _
            have HT := aside (iTwMer_any _ d w3 w.heap.size (HV.out.below hb13) hb13.size hn a m b ham' hmb' hbn)
            generalize Pl.symMerge ltK (b - a) d a m b = r at hl1 hrs HT
            obtain ⟨A1, cc1, rfl, hc1, hm1, -⟩ := hl1.mono (Nat.le_refl _)
            rw [hrs] at hl1 hc1 ⊢
            clear L1 L2 Z1 Z2 O1 O2
            go_wp2_with fail
            refine HT.out.mono ?_
            rintro e w4 ⟨v2, rfl, hl2, hb4⟩
            have hb14 := hb13.trans (hb4.mono hb13.size)
            go_wp2_with fail
            refine (equal_same _ v2 r w4 _ _ (hl1.below hb4) hl2 (by omega)).mono ?_
            rintro e w5 ⟨rfl, q, rfl⟩
            have hb15 := hb14.trans ((below_drewN w4 q).mono hb14.size)
            generalize w4.drewN q = w5 at hb15 ⊢
            clear hb3 hb4 hl1 hl2 hb12 hb13 hb14 HT
            have hR1 := aside (iRot_any _ d w5 w.heap.size (HV.out.below hb15) hb15.size hn a m b ham' hmb' hbn)
            go_wp2_with fail
            refine hR1.out.mono ?_
            rintro e w6 ⟨v3, rfl, hl3, hb6⟩
            have hb16 := hb15.trans (hb6.mono hb15.size)
            have hR2 := aside (iTwRot_any _ d w6 w.heap.size (HV.out.below hb16) hb16.size hn a m b ham' hmb' hbn)
            have hrs2 : (Pl.rotate d a m b).size = d.size := Pl.rotate_size _ _ _ _
            generalize Pl.rotate d a m b = r2 at hl3 hrs2 hR2
            go_wp2_with fail
            refine hR2.out.mono ?_
            rintro e w7 ⟨v4, rfl, hl4, hb7⟩
            have hb17 := hb16.trans (hb7.mono hb16.size)
            go_wp2_with fail
            refine (equal_same v3 v4 r2 w7 _ _ (hl3.below hb7) hl4 (by omega)).mono ?_
            rintro e w8 ⟨rfl, q2, rfl⟩
            go_wp2_with fail
            go_ret
            exact ⟨rfl, hb17.trans ((below_drewN w7 q2).mono hb17.size)⟩
  · have hR := itemRange_no A d.size c a b w hr
    unfold maxLen at hm
    generalize d.size = n at hc hR ⊢
    clear hr HV
    by_cases g1 : (2147483647 : Int) < (n : Int)
    · clear hR
      go_enter Try.func14, Try.ntmps14
      go_wp2_with fail
      go_ret
      exact ⟨rfl, Below.refl _ _⟩
    · go_enter Try.func14, Try.ntmps14
      go_wp2_with fail
      refine hR.mono ?_
      rintro e w' ⟨rfl, hw⟩
      obtain rfl : w = w' := hw.symm
      clear hR
      go_wp2_with fail
      go_ret
      exact ⟨rfl, Below.refl _ _⟩
end Go.Proofs.Ytaifmeajfldckaa
