/- The walk of the law FnTwinHeap: Both twins give the same by a heap, of items with the same key too. It returns true for every input, and leaves all that lay there as it was. No condition. -/
import Derived.Test.YtaifmeajfldckaaWHeap
import Derived.Test.YtaifmeajfldckaaWTwHeap
import Derived.Test.YtaifmeajfldckaaSpec
namespace Go.Proofs.Ytaifmeajfldckaa
open Go.RowKit Go.Sort Go.Proofs

set_option maxHeartbeats 2000000 in
theorem lawFnTwinHeap (v : Value) (d : Array (Int × Int)) (w : World) (hv : Lst w w.heap.size v d) (a : Int) (b : Int) (_wa : (Lit.int .i64 a).wf = true) (_wb : (Lit.int .i64 b).wf = true) :
    Calls Try.prog 10 #[v, .int .i64 a, .int .i64 b] w fun e w' => e = .returned (.bool true) ∧ Below w.heap.size w w' := by
  have HV := aside hv
  obtain ⟨A, c, rfl, hc, hm, _⟩ := hv
  by_cases hr : 0 ≤ a ∧ a ≤ b ∧ b ≤ d.size ∧ d.size ≤ 4096
  · obtain ⟨h1, h2, h3, hn⟩ := hr
    obtain ⟨a, rfl⟩ := Int.eq_ofNat_of_zero_le h1
    obtain ⟨b, rfl⟩ := Int.eq_ofNat_of_zero_le (Int.le_trans h1 h2)
    have hab : a ≤ b := by omega
    have hbn : b ≤ d.size := by omega
    have hR := itemRange_yes A d.size c a b w h1 h2 h3 hn
    have g1 : ¬ (2147483647 : Int) < (d.size : Int) := by omega
    clear h1 h2 h3
    go_enter Try.func10, Try.ntmps10
    go_wp2_with fail
    refine hR.mono ?_
    rintro e w' ⟨rfl, hw⟩
    obtain rfl : w = w' := hw.symm
    clear hR
    go_wp2_with fail
    refine (iHeap_any _ d w w.heap.size HV.out (Nat.le_refl _) hn a b hab hbn).mono ?_
    rintro e w1 ⟨v1, rfl, hl1, hb1⟩
    have hrs : (heapSort ltK d a b).size = d.size := heapSort_size _ _ _
    have HT := aside (iTwHeap_any _ d w1 w.heap.size (HV.out.below hb1) hb1.size hn a b hab hbn)
    generalize heapSort ltK d a b = r at hl1 hrs HT
    obtain ⟨A1, c1, rfl, hc1, hm1, -⟩ := hl1.mono (Nat.le_refl _)
    rw [hrs] at hl1 hc1 ⊢
    go_wp2_with fail
    refine HT.out.mono ?_
    rintro e w2 ⟨v2, rfl, hl2, hb2⟩
    go_wp2_with fail
    refine (equal_same _ v2 r w2 _ _ (hl1.below hb2) hl2 (by omega)).mono ?_
    rintro e w3 ⟨rfl, q, rfl⟩
    go_wp2_with fail
    go_ret
    exact ⟨rfl, (hb1.trans (hb2.mono hb1.size)).trans ((below_drewN w2 q).mono (Nat.le_trans hb1.size hb2.size))⟩
  · have hR := itemRange_no A d.size c a b w hr
    unfold maxLen at hm
    generalize d.size = n at hc hR ⊢
    clear hr HV
    by_cases g1 : (2147483647 : Int) < (n : Int)
    · clear hR
      go_enter Try.func10, Try.ntmps10
      go_wp2_with fail
      go_ret
      exact ⟨rfl, Below.refl _ _⟩
    · go_enter Try.func10, Try.ntmps10
      go_wp2_with fail
      refine hR.mono ?_
      rintro e w' ⟨rfl, hw⟩
      obtain rfl : w = w' := hw.symm
      clear hR
      go_wp2_with fail
      go_ret
      exact ⟨rfl, Below.refl _ _⟩
end Go.Proofs.Ytaifmeajfldckaa
