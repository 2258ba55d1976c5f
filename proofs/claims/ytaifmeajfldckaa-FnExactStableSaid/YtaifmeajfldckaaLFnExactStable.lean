/- The walk of the law FnExactStable: items are sorted by keys, and those with the same key stay in order. It returns true for every input, and leaves all that lay there as it was. No condition. -/
import Derived.Test.YtaifmeajfldckaaStably
import Derived.Test.YtaifmeajfldckaaStab
namespace Go.Proofs.Ytaifmeajfldckaa
open Go.RowKit Go.Sort Go.Proofs

set_option maxHeartbeats 2000000 in
theorem lawFnExactStable (v : Value) (d : Array (Int × Int)) (w : World) (hv : Lst w w.heap.size v d) :
    Calls Try.prog 13 #[v] w fun e w' => e = .returned (.bool true) ∧ Below w.heap.size w w' := by
  have HV := aside hv
  obtain ⟨A, c, rfl, hc, hm, _⟩ := hv
  by_cases hn : d.size ≤ 4096
  · have he : Aside (Pl.stable ltK d d.size = insertionSort ltK d 0 d.size) := Pl.stable_eq swoK d d.size (Nat.le_refl _)
    have hS0 := sortedItems_any _ d w w.heap.size HV.out hn 0 d.size (Nat.zero_le _) (Nat.le_refl _)
    rw [show ((0 : Nat) : Int) = 0 from rfl] at hS0
    have g1 : ¬ (2147483647 : Int) < (d.size : Int) := by omega
    have g2 : ¬ (4096 : Int) < (d.size : Int) := by omega
    have hz : Aside ((insertionSort ltK d 0 d.size).size ≤ 4096) := by show _ ≤ _; rw [ins_size]; exact hn
    have HS := aside hS0
    have HNn := aside hn
    clear hS0
    go_enter Try.func13, Try.ntmps13
    go_wp2_with fail
    refine HS.out.mono ?_
    rintro e w1 ⟨v1, rfl, hl1, hb1⟩
    clear HS
    go_wp2_with fail
    refine (iSta_any _ d w1 w.heap.size (HV.out.below hb1) hb1.size HNn.out).mono ?_
    rw [he.out]
    rintro e w2 ⟨v2, rfl, hl2, hb2⟩
    have hb12 := hb1.trans (hb2.mono hb1.size)
    have hl12 := hl1.below hb2
    go_wp2_with fail
    refine (equal_same v2 v1 _ w2 _ _ hl2 hl12 hz.out).mono ?_
    rintro e w3 ⟨rfl, q, rfl⟩
    have hb13 := hb12.trans ((below_drewN w2 q).mono hb12.size)
    have hl13 := hl12.below ((below_drewN w2 q).mono hb2.size)
    have hs13 : w1.heap.size ≤ (w2.drewN q).heap.size := Nat.le_trans hb2.size (below_drewN w2 q).size
    generalize w2.drewN q = w3 at hb13 hl13 hs13 ⊢
    go_wp2_with fail
    refine (stably_any _ d w3 w.heap.size (HV.out.below hb13) hb13.size HNn.out).mono ?_
    rw [he.out]
    rintro e w4 ⟨v4, rfl, hl4, hb4⟩
    have hb14 := hb13.trans (hb4.mono hb13.size)
    have hl14 : Lst w4 w1.heap.size v1 _ := hl13.below (hb4.mono hs13)
    go_wp2_with fail
    refine (equal_same v4 v1 _ w4 _ _ hl4 hl14 hz.out).mono ?_
    rintro e w5 ⟨rfl, q2, rfl⟩
    go_wp2_with fail
    go_ret
    exact ⟨rfl, hb14.trans ((below_drewN w4 q2).mono hb14.size)⟩
  · generalize d.size = n at hc hn ⊢
    unfold maxLen at hm
    have g2 : (4096 : Int) < (n : Int) := by omega
    clear HV
    by_cases g1 : (2147483647 : Int) < (n : Int)
    · go_enter Try.func13, Try.ntmps13
      go_wp2_with fail
      go_ret
      exact ⟨rfl, Below.refl _ _⟩
    · go_enter Try.func13, Try.ntmps13
      go_wp2_with fail
      go_ret
      exact ⟨rfl, Below.refl _ _⟩
end Go.Proofs.Ytaifmeajfldckaa
