/- The walk of the law FnExactInOrder: it returns true for every list of items, and leaves all that lay there as it was. No condition. -/
import Derived.Test.YtaifmeajfldckaaKeys
namespace Go.Proofs.Ytaifmeajfldckaa
open Go.RowKit Go.Sort Go.Proofs

/-- The row of a sorting begins. -/
theorem Own.row {w : World} {base : Nat} {v : Value} {d : Array (Int × Int)} (h : Own w base v d) (hb : base ≤ w.heap.size) : ∃ blk, base ≤ blk ∧ Tn blk d w w ∧ ItemsVal blk d.size v := by
  rcases h with ⟨h0, rfl⟩ | ⟨g, c, rfl, hc, hm, hbg, hg, hH⟩
  · exact ⟨w.heap.size, hb, Tn.empty h0 w _, .inl ⟨h0, rfl⟩⟩
  · exact ⟨g, hbg, Tn.start hH hg, .inr ⟨c, hc, rfl⟩⟩

set_option maxHeartbeats 1000000 in
theorem inOrder_any (v : Value) (d : Array (Int × Int)) (w : World) (B : Nat) (hv : Lst w B v d) (hB : B ≤ w.heap.size) (hn : d.size ≤ 4096) :
    Calls Try.prog 19 #[v] w fun e w' => e = .returned (.bool (inOrder ltK d)) ∧ Below w.heap.size w w' := by
  obtain ⟨r, hr⟩ : ∃ r, inOrder ltK d = r := ⟨_, rfl⟩
  rw [hr]
  have HR : Aside _ := hr
  clear hr
  go_enter Try.func19, Try.ntmps19
  go_wp2_with fail
  refine (toSort_any v d w B hv hB hn).mono ?_
  rintro e w1 ⟨v1, rfl, ho, hb⟩
  obtain ⟨blk, hblk, T1, hI⟩ := ho.row hb.size
  have M := items_meth v1 blk d.size hI (by omega) w1
  go_wp2_with fail
  refine (isSorted_any d w1 M T1 rfl).mono ?_
  rw [HR.out]
  rintro e w2 ⟨rfl, T2⟩
  go_wp2_with fail
  go_ret
  exact ⟨rfl, hb.trans (T2.belowRow hblk hb.size)⟩

set_option maxHeartbeats 1000000 in
theorem lawInOrder (v : Value) (d : Array (Int × Int)) (w : World) (hv : Lst w w.heap.size v d) :
    Calls Try.prog 3 #[v] w fun e w' => e = .returned (.bool true) ∧ Below w.heap.size w w' := by
  by_cases hn : d.size ≤ 4096
  · have hv2 := hv
    obtain ⟨A, c, rfl, hc, hm, _⟩ := hv2
    obtain ⟨n, hnd⟩ : ∃ n, d.size = n := ⟨_, rfl⟩
    have HV := aside hv
    rw [hnd] at hn hc HV ⊢
    have HN : Aside _ := hnd
    clear hnd hv
    obtain ⟨r, hr⟩ : ∃ r, inOrder ltK d = r := ⟨_, rfl⟩
    have HR : Aside _ := hr
    clear hr
    have h1 : ¬ (2147483647 : Int) < (n : Int) := by omega
    have h2 : ¬ (4096 : Int) < (n : Int) := by omega
    go_enter Try.func3, Try.ntmps3
    go_wp2_with fail
    refine (inOrder_any _ d w w.heap.size HV.out (Nat.le_refl _) (by rw [HN.out]; exact hn)).mono ?_
    rw [HR.out]
    rintro e w1 ⟨rfl, hb⟩
    go_wp2_with fail
    refine (sortedKeys_any _ d w1 w.heap.size (HV.out.below hb) hb.size (by rw [HN.out]; exact hn)).mono ?_
    rw [HR.out]
    rintro e w2 ⟨rfl, hb2⟩
    cases r
    · go_wp2_with fail
      go_ret
      exact ⟨rfl, hb.trans (hb2.mono hb.size)⟩
    · go_wp2_with fail
      go_ret
      exact ⟨rfl, hb.trans (hb2.mono hb.size)⟩
  · obtain ⟨A, c, rfl, hc, hm, _⟩ := hv
    generalize d.size = n at hn hc
    unfold maxLen at hm
    by_cases h1 : (2147483647 : Int) < (n : Int)
    · go_enter Try.func3, Try.ntmps3
      go_wp2
      go_ret
      exact ⟨rfl, Below.refl _ _⟩
    · have h2 : (4096 : Int) < (n : Int) := by omega
      go_enter Try.func3, Try.ntmps3
      go_wp2
      go_ret
      exact ⟨rfl, Below.refl _ _⟩
end Go.Proofs.Ytaifmeajfldckaa
