/- The walk of the law FnExactBackwards: in the other order the keys fall, and items with the same key stay in order. It returns true for every input, and leaves all that lay there as it was. No condition. -/
import Derived.Test.YtaifmeajfldckaaBack
namespace Go.Proofs.Ytaifmeajfldckaa
open Go.RowKit Go.Sort Go.Proofs

set_option maxHeartbeats 2000000 in
theorem lawFnExactBackwards (v : Value) (d : Array (Int × Int)) (w : World) (hv : Lst w w.heap.size v d) :
    Calls Try.prog 12 #[v] w fun e w' => e = .returned (.bool true) ∧ Below w.heap.size w w' := by
  have HV := aside hv
  obtain ⟨A, c, rfl, hc, hm, _⟩ := hv
  by_cases hn : d.size ≤ 4096
  · have he : Aside (Pl.stable ltR d d.size = insertionSort ltR d 0 d.size) := Pl.stable_eq swoR d d.size (Nat.le_refl _)
    have g1 : ¬ (2147483647 : Int) < (d.size : Int) := by omega
    have g2 : ¬ (4096 : Int) < (d.size : Int) := by omega
    have hz : Aside ((insertionSort ltR d 0 d.size).size ≤ 4096) := by show _ ≤ _; rw [ins_size]; exact hn
    have HNn := aside hn
    go_enter Try.func12, Try.ntmps12
    go_wp2_with fail
    refine (backwards_any _ d w w.heap.size HV.out (Nat.le_refl _) HNn.out).mono ?_
    rw [he.out]
    rintro e w1 ⟨v1, rfl, hl1, hb1⟩
    go_wp2_with fail
    refine (fallen_any _ d w1 w.heap.size (HV.out.below hb1) HNn.out).mono ?_
    rintro e w2 ⟨v2, rfl, hl2, hb2⟩
    have hb12 := hb1.trans (hb2.mono hb1.size)
    go_wp2_with fail
    refine (equal_same v1 v2 _ w2 _ _ (hl1.below hb2) hl2 hz.out).mono ?_
    rintro e w3 ⟨rfl, q, rfl⟩
    go_wp2_with fail
    go_ret
    exact ⟨rfl, hb12.trans ((below_drewN w2 q).mono hb12.size)⟩
  · generalize d.size = n at hc hn ⊢
    unfold maxLen at hm
    have g2 : (4096 : Int) < (n : Int) := by omega
    clear HV
    by_cases g1 : (2147483647 : Int) < (n : Int)
    · go_enter Try.func12, Try.ntmps12
      go_wp2_with fail
      go_ret
      exact ⟨rfl, Below.refl _ _⟩
    · go_enter Try.func12, Try.ntmps12
      go_wp2_with fail
      go_ret
      exact ⟨rfl, Below.refl _ _⟩
end Go.Proofs.Ytaifmeajfldckaa
