/- The walk of the law FnTwinPdq: Both twins give the same by quicksort, of items with the same key too. It returns true for every input, and leaves all that lay there as it was. No condition. -/
import Derived.Test.YtaifmeajfldckaaWPdq
import Derived.Test.YtaifmeajfldckaaAhd
import Derived.Test.YtaifmeajfldckaaWTwPdq
namespace Go.Proofs.Ytaifmeajfldckaa
open Go.RowKit Go.Sort Go.Proofs

set_option maxHeartbeats 2000000 in
theorem lawFnTwinPdq (v : Value) (d : Array (Int × Int)) (w : World) (hv : Lst w w.heap.size v d) (a : Int) (b : Int) (limit : Int) (_wa : (Lit.int .i64 a).wf = true) (_wb : (Lit.int .i64 b).wf = true) (_wl : (Lit.int .i64 limit).wf = true) :
    Calls Try.prog 18 #[v, .int .i64 a, .int .i64 b, .int .i64 limit] w fun e w' => e = .returned (.bool true) ∧ Below w.heap.size w w' := by
  have HV := aside hv
  obtain ⟨A, c, rfl, hc, hm, _⟩ := hv
  by_cases hr : 0 ≤ a ∧ a ≤ b ∧ b ≤ d.size ∧ d.size ≤ 4096
  · obtain ⟨h1, h2, h3, hn⟩ := hr
    obtain ⟨a, rfl⟩ := Int.eq_ofNat_of_zero_le h1
    obtain ⟨b, rfl⟩ := Int.eq_ofNat_of_zero_le (Int.le_trans h1 h2)
    have hab : a ≤ b := by omega
    have hbn : b ≤ d.size := by omega
    have hR := itemRange_yes A d.size c a b w h1 h2 h3 hn
    have g1 : ¬ (2147483647 : Int) < (d.size : Int) := by omega
    clear h1 h2 h3
    by_cases hl : 0 ≤ limit ∧ limit ≤ 1000
    · obtain ⟨hl1, hl2⟩ := hl
      obtain ⟨limit, rfl⟩ := Int.eq_ofNat_of_zero_le hl1
      have hlim : limit ≤ 1000 := by omega
      have HA := aside (aheadItems_any _ d w w.heap.size HV.out (Nat.le_refl _) hn a b hab hbn)
      go_enter Try.func18, Try.ntmps18
      go_wp2_with fail
      refine hR.mono ?_
      rintro e w' ⟨rfl, hw⟩
      obtain rfl : w = w' := hw.symm
      clear hR
      go_wp2_with fail
      refine HA.out.mono ?_
      rintro e w0 ⟨r, rfl, hr0, hb0⟩
      have HR0 := aside hr0
      clear hr0 HA
      cases r with
      | false =>
        go_wp2_with fail
        go_ret
        exact ⟨rfl, hb0⟩
      | true =>
        have HB := aside (HR0.out rfl)
        clear HR0
        go_wp2_with fail
        refine (iPdq_any _ d w0 w.heap.size (HV.out.below hb0) hb0.size hn a b limit hab hbn hlim HB.out).mono ?_
        rintro e w1 ⟨v1, rfl, hl1, hbx⟩
        have hb1 := hb0.trans (hbx.mono hb0.size)
        have hrs : (pdq ltK d a b limit true true).size = d.size := pdq_size swoK limit hab hbn HB.out
        have HT := aside (iTwPdq_any _ d w1 w.heap.size (HV.out.below hb1) hb1.size hn a b limit hab hbn hlim HB.out)
        generalize pdq ltK d a b limit true true = r at hl1 hrs HT
        obtain ⟨A1, c1, rfl, hc1, hm1, -⟩ := hl1.mono (Nat.le_refl _)
        rw [hrs] at hl1 hc1 ⊢
        go_wp2_with fail
        refine HT.out.mono ?_
        rintro e w2 ⟨v2, rfl, hl2, hb2⟩
        go_wp2_with fail
        refine (equal_same _ v2 r w2 _ _ (hl1.below hb2) hl2 (by omega)).mono ?_
        rintro e w3 ⟨rfl, q, rfl⟩
        go_wp2_with fail
        go_ret
        exact ⟨rfl, (hb1.trans (hb2.mono hb1.size)).trans ((below_drewN w2 q).mono (Nat.le_trans hb1.size hb2.size))⟩
    · have hl' : limit < 0 ∨ 1000 < limit := by omega
      rcases hl' with hl' | hl'
      all_goals
        go_enter Try.func18, Try.ntmps18
        go_wp2_with fail
        refine hR.mono ?_
        rintro e w' ⟨rfl, hw⟩
        obtain rfl : w = w' := hw.symm
        clear hR
        go_wp2_with fail
        go_ret
        exact ⟨rfl, Below.refl _ _⟩
  · have hR := itemRange_no A d.size c a b w hr
    unfold maxLen at hm
    generalize d.size = n at hc hR ⊢
    clear hr HV
    by_cases g1 : (2147483647 : Int) < (n : Int)
    · clear hR
      go_enter Try.func18, Try.ntmps18
      go_wp2_with fail
      go_ret
      exact ⟨rfl, Below.refl _ _⟩
    · go_enter Try.func18, Try.ntmps18
      go_wp2_with fail
      refine hR.mono ?_
      rintro e w' ⟨rfl, hw⟩
      obtain rfl : w = w' := hw.symm
      clear hR
      go_wp2_with fail
      go_ret
      exact ⟨rfl, Below.refl _ _⟩
end Go.Proofs.Ytaifmeajfldckaa
