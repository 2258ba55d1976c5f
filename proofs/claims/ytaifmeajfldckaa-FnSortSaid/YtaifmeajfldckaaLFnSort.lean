/- The walk of the law FnSort: items are sorted by keys. It returns true for every input, and leaves all that lay there as it was. No condition. -/
import Derived.Test.YtaifmeajfldckaaSrt
import Derived.Test.YtaifmeajfldckaaSortKeys
import Derived.Test.YtaifmeajfldckaaL3
namespace Go.Proofs.Ytaifmeajfldckaa
open Go.RowKit Go.Sort Go.Proofs

set_option maxHeartbeats 2000000 in
theorem lawFnSort (v : Value) (d : Array (Int × Int)) (w : World) (hv : Lst w w.heap.size v d) :
    Calls Try.prog 17 #[v] w fun e w' => e = .returned (.bool true) ∧ Below w.heap.size w w' := by
  have HV := aside hv
  obtain ⟨A, c, rfl, hc, hm, _⟩ := hv
  by_cases hn : d.size ≤ 4096
  · have g1 : ¬ (2147483647 : Int) < (d.size : Int) := by omega
    have g2 : ¬ (4096 : Int) < (d.size : Int) := by omega
    have HNn := aside hn
    go_enter Try.func17, Try.ntmps17
    go_wp2_with fail
    refine (iSort_any _ d w w.heap.size HV.out (Nat.le_refl _) HNn.out).mono ?_
    rintro e w1 ⟨v1, rfl, hl1, hb1⟩
    have hp : PermIn 0 d.size d (Sort.sort ltK d) ∧ SortedIn ltK 0 d.size (Sort.sort ltK d) := pdq_sorts ltK swoK d 0 d.size _ true true (Nat.zero_le _) (Nat.le_refl _) (.inl rfl)
    have hrs : (Sort.sort ltK d).size = d.size := sort_size swoK d
    generalize Sort.sort ltK d = r at hl1 hp hrs
    have hS := sameItems_any _ _ _ _ w1 _ _ hl1 (HV.out.below hb1) (Nat.le_refl _) hb1.size HNn.out 0 d.size (Nat.zero_le _) (Nat.le_refl _) hp.1
    have hO := inOrder_sorted hp.2 (by omega)
    rw [← hrs, Array.extract_size] at hO
    have HO := aside hO
    have hZ : r.size ≤ 4096 := by omega
    have HL := aside hl1
    have HS := aside hS
    clear hl1 hp hO hS
    go_wp2_with fail
    refine HS.out.mono ?_
    rintro e w2 ⟨rfl, hb2⟩
    have hb12 := hb1.trans (hb2.mono hb1.size)
    have HL2 := aside (HL.out.below hb2)
    have hs2 := hb2.size
    clear HS
    go_wp2_with fail
    refine (sortedKeys_any _ r w2 _ HL2.out hs2 hZ).mono ?_
    rw [HO.out]
    rintro e w3 ⟨rfl, hb3⟩
    have hb13 := hb12.trans (hb3.mono hb12.size)
    have HL3 := aside (HL2.out.below (hb3.mono hs2))
    have hs3 := Nat.le_trans hs2 hb3.size
    go_wp2_with fail
    refine (inOrder_any _ r w3 _ HL3.out hs3 hZ).mono ?_
    rw [HO.out]
    rintro e w4 ⟨rfl, hb4⟩
    go_wp2_with fail
    go_ret
    exact ⟨rfl, hb13.trans (hb4.mono hb13.size)⟩
  · generalize d.size = n at hc hn ⊢
    unfold maxLen at hm
    have g2 : (4096 : Int) < (n : Int) := by omega
    clear HV
    by_cases g1 : (2147483647 : Int) < (n : Int)
    · go_enter Try.func17, Try.ntmps17
      go_wp2_with fail
      go_ret
      exact ⟨rfl, Below.refl _ _⟩
    · go_enter Try.func17, Try.ntmps17
      go_wp2_with fail
      go_ret
      exact ⟨rfl, Below.refl _ _⟩
end Go.Proofs.Ytaifmeajfldckaa
