/- The walk of the law FnTwinStable: both twins sort stably to the same. It returns true for every input, and leaves all that lay there as it was. No condition. -/
import Derived.Test.YtaifmeajfldckaaWSta
import Derived.Test.YtaifmeajfldckaaWTwSta
namespace Go.Proofs.Ytaifmeajfldckaa
open Go.RowKit Go.Sort Go.Proofs

set_option maxHeartbeats 2000000 in
theorem lawFnTwinStable (v : Value) (d : Array (Int × Int)) (w : World) (hv : Lst w w.heap.size v d) :
    Calls Try.prog 15 #[v] w fun e w' => e = .returned (.bool true) ∧ Below w.heap.size w w' := by
  have HV := aside hv
  obtain ⟨A, c, rfl, hc, hm, _⟩ := hv
  by_cases hn : d.size ≤ 4096
  · have g1 : ¬ (2147483647 : Int) < (d.size : Int) := by omega
    have g2 : ¬ (4096 : Int) < (d.size : Int) := by omega
    have HNn := aside hn
    by_cases h0 : d.size = 0
    · have g3 : (d.size : Int) = 0 := by omega
      clear h0
      go_enter Try.func15, Try.ntmps15
      go_wp2_with fail
      go_ret
      exact ⟨rfl, Below.refl _ _⟩
    · have g3 : ((d.size : Int) == 0) = false := beq_eq_false_iff_ne.2 (by omega)
      have g4 : 0 < d.size := by omega
      have hpos := aside g4
      clear h0
      go_enter Try.func15, Try.ntmps15
      go_wp2_with fail
      refine (iSta_any _ d w w.heap.size HV.out (Nat.le_refl _) HNn.out).mono ?_
      rintro e w1 ⟨v1, rfl, hl1, hb1⟩
      have hrs : (Pl.stable ltK d d.size).size = d.size := stable_size _ _ _
      have HT := aside (iTwSta_any _ d w1 w.heap.size (HV.out.below hb1) hb1.size HNn.out hpos.out)
      generalize Pl.stable ltK d d.size = r at hl1 hrs HT
      obtain ⟨A1, cc1, rfl, hc1, hm1, -⟩ := hl1.mono (Nat.le_refl _)
      rw [hrs] at hl1 hc1 ⊢
      go_wp2_with fail
      refine HT.out.mono ?_
      rintro e w2 ⟨v2, rfl, hl2, hb2⟩
      go_wp2_with fail
      refine (equal_same _ v2 r w2 _ _ (hl1.below hb2) hl2 (by omega)).mono ?_
      rintro e w3 ⟨rfl, q, rfl⟩
      go_wp2_with fail
      go_ret
      exact ⟨rfl, (hb1.trans (hb2.mono hb1.size)).trans ((below_drewN w2 q).mono (Nat.le_trans hb1.size hb2.size))⟩
  · generalize d.size = n at hc hn ⊢
    unfold maxLen at hm
    have g2 : (4096 : Int) < (n : Int) := by omega
    clear HV
    by_cases g1 : (2147483647 : Int) < (n : Int)
    · go_enter Try.func15, Try.ntmps15
      go_wp2_with fail
      go_ret
      exact ⟨rfl, Below.refl _ _⟩
    · go_enter Try.func15, Try.ntmps15
      go_wp2_with fail
      go_ret
      exact ⟨rfl, Below.refl _ _⟩
end Go.Proofs.Ytaifmeajfldckaa
