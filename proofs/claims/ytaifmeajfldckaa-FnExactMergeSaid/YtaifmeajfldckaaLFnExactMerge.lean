/- The walk of the law FnExactMerge: two sorted parts are merged, and items with the same key stay in order. It returns true for every input, and leaves all that lay there as it was. No condition. -/
import Derived.Test.YtaifmeajfldckaaWMer
import Derived.Test.YtaifmeajfldckaaSortKeys
import Derived.Test.YtaifmeajfldckaaStab
namespace Go.Proofs.Ytaifmeajfldckaa
open Go.RowKit Go.Sort Go.Proofs

set_option maxHeartbeats 4000000 in
theorem lawFnExactMerge (v : Value) (d : Array (Int × Int)) (w : World) (hv : Lst w w.heap.size v d) (a : Int) (m : Int) (b : Int) (_wa : (Lit.int .i64 a).wf = true) (_wm : (Lit.int .i64 m).wf = true) (_wb : (Lit.int .i64 b).wf = true) :
    Calls Try.prog 11 #[v, .int .i64 a, .int .i64 m, .int .i64 b] w fun e w' => e = .returned (.bool true) ∧ Below w.heap.size w w' := by
  have HV := aside hv
  obtain ⟨A, c, rfl, hc, hm, _⟩ := hv
  by_cases hr : 0 ≤ a ∧ a ≤ b ∧ b ≤ d.size ∧ d.size ≤ 4096
  · obtain ⟨h1, h2, h3, hn⟩ := hr
    obtain ⟨a, rfl⟩ := Int.eq_ofNat_of_zero_le h1
    obtain ⟨b, rfl⟩ := Int.eq_ofNat_of_zero_le (Int.le_trans h1 h2)
    have hab : a ≤ b := by omega
    have hbn : b ≤ d.size := by omega
    have hR := itemRange_yes A d.size c a b w h1 h2 h3 hn
    have g1 : ¬ (2147483647 : Int) < (d.size : Int) := by omega
    clear h1 h2 h3
    by_cases ham : (a : Int) ≥ m
    · go_enter Try.func11, Try.ntmps11
      go_wp2_with fail
      refine hR.mono ?_
      rintro e w' ⟨rfl, hw⟩
      obtain rfl : w = w' := hw.symm
      clear hR
      go_wp2_with fail
      go_ret
      exact ⟨rfl, Below.refl _ _⟩
    · by_cases hmb : m ≥ (b : Int)
      · go_enter Try.func11, Try.ntmps11
        go_wp2_with fail
        refine hR.mono ?_
        rintro e w' ⟨rfl, hw⟩
        obtain rfl : w = w' := hw.symm
        clear hR
        go_wp2_with fail
        go_ret
        exact ⟨rfl, Below.refl _ _⟩
      · obtain ⟨m, rfl⟩ := Int.eq_ofNat_of_zero_le (show 0 ≤ m by omega)
        have ham' : a < m := by omega
        have hmb' : m < b := by omega
        have b5 : (b : Int) ≤ (c : Int) := by omega
        have b6 : (m : Int) ≤ (c : Int) := by omega
        have b7 : (a : Int) ≤ (m : Int) := by omega
        have b2 : (m : Int) ≤ (b : Int) := by omega
        have b8 : ¬ c = m := by omega
        have b9 : ¬ c = a := by omega
        have L1 := aside ((HV.out.cut2 rfl a m (by omega) (by omega)).2 b9)
        have L2 := aside ((HV.out.cut2 rfl m b (by omega) hbn).2 b8)
        have z1 : (d.extract a m).size ≤ 4096 := by simp; omega
        have z2 : (d.extract m b).size ≤ 4096 := by simp; omega
        have Z1 := aside z1
        have Z2 := aside z2
        clear z1 z2
        cases o1 : inOrder ltK (d.extract a m) with
        | false =>
          have O1 := aside o1
          clear o1
          go_enter Try.func11, Try.ntmps11
          go_wp2_with fail
          refine hR.mono ?_
          rintro e w' ⟨rfl, hw⟩
          obtain rfl : w = w' := hw.symm
          clear hR
          go_wp2_with fail
          refine (sortedKeys_any _ _ w _ L1.out (Nat.le_refl _) Z1.out).mono ?_
          rw [O1.out]
          rintro e w1 ⟨rfl, hb1⟩
          go_wp2_with fail
          go_ret
          exact ⟨rfl, hb1⟩
        | true =>
          have O1 := aside o1
          clear o1
          cases o2 : inOrder ltK (d.extract m b) with
          | false =>
            have O2 := aside o2
            clear o2
            go_enter Try.func11, Try.ntmps11
            go_wp2_with fail
            refine hR.mono ?_
            rintro e w' ⟨rfl, hw⟩
            obtain rfl : w = w' := hw.symm
            clear hR
            go_wp2_with fail
            refine (sortedKeys_any _ _ w _ L1.out (Nat.le_refl _) Z1.out).mono ?_
            rw [O1.out]
            rintro e w1 ⟨rfl, hb1⟩
            go_wp2_with fail
            refine (sortedKeys_any _ _ w1 _ (L2.out.below hb1) hb1.size Z2.out).mono ?_
            rw [O2.out]
            rintro e w2 ⟨rfl, hb2⟩
            go_wp2_with fail
            go_ret
            exact ⟨rfl, hb1.trans (hb2.mono hb1.size)⟩
          | true =>
            have O2 := aside o2
            clear o2
            have he : Aside (Pl.symMerge ltK (b - a) d a m b = insertionSort ltK d a b) := Pl.symMerge_eq swoK (b - a) d a m b (Nat.le_refl _) ham' hmb' hbn (sorted_of_inOrder swoK O1.out (by omega)) (sorted_of_inOrder swoK O2.out hbn)
            go_enter Try.func11, Try.ntmps11
            go_wp2_with fail
            refine hR.mono ?_
            rintro e w' ⟨rfl, hw⟩
            obtain rfl : w = w' := hw.symm
            clear hR
            go_wp2_with fail
            refine (sortedKeys_any _ _ w _ L1.out (Nat.le_refl _) Z1.out).mono ?_
            rw [O1.out]
            rintro e w1 ⟨rfl, hb1⟩
            go_wp2_with fail
            refine (sortedKeys_any _ _ w1 _ (L2.out.below hb1) hb1.size Z2.out).mono ?_
            rw [O2.out]
            rintro e w2 ⟨rfl, hb2⟩
            have hb12 := hb1.trans (hb2.mono hb1.size)
            clear hb1 hb2
            go_wp2_with fail
            refine (iMer_any _ d w2 w.heap.size (HV.out.below hb12) hb12.size hn a m b ham' hmb' hbn).mono ?_
            rw [he.out]
            rintro e w3 ⟨v1, rfl, hl1, hb3⟩
            have hb13 := hb12.trans (hb3.mono hb12.size)
            go_wp2_with fail
            refine (sortedItems_any _ d w3 w.heap.size (HV.out.below hb13) hn a b hab hbn).mono ?_
            rintro e w4 ⟨v2, rfl, hl2, hb4⟩
            go_wp2_with fail
            refine (equal_same v1 v2 _ w4 w3.heap.size w4.heap.size (hl1.below hb4) hl2 (by rw [ins_size]; exact hn)).mono ?_
            rintro e w5 ⟨rfl, q, rfl⟩
            go_wp2_with fail
            go_ret
            exact ⟨rfl, (hb13.trans (hb4.mono hb13.size)).trans ((below_drewN w4 q).mono (Nat.le_trans hb13.size hb4.size))⟩
  · have hR := itemRange_no A d.size c a b w hr
    unfold maxLen at hm
    generalize d.size = n at hc hR ⊢
    clear hr HV
    by_cases g1 : (2147483647 : Int) < (n : Int)
    · clear hR
      go_enter Try.func11, Try.ntmps11
      go_wp2_with fail
      go_ret
      exact ⟨rfl, Below.refl _ _⟩
    · go_enter Try.func11, Try.ntmps11
      go_wp2_with fail
      refine hR.mono ?_
      rintro e w' ⟨rfl, hw⟩
      obtain rfl : w = w' := hw.symm
      clear hR
      go_wp2_with fail
      go_ret
      exact ⟨rfl, Below.refl _ _⟩
end Go.Proofs.Ytaifmeajfldckaa
